/-
  'workbook.columnOf', the law's small helpers, AS PLAIN FUNCTIONS.
-/
import Derived.Test.Qxb6623495aProg
import Derived.Test.Qxb6623495aMem
import Derived.Test.Qxb6623495aPlain
import Derived.WalkKit
import Derived.ProofKit
import Derived.WalkLawsBesides
import Derived.RegionTactic
import Derived.Deep.QuietTactic
import Derived.BigQuiet
namespace Go.Proofs.Qxb6623495a
open Go.RowKit
set_option linter.unusedVariables false

/-- What 'columnOf' answers. -/
def Ans (f : Nat → Int) (n : Nat) (r : Int) : Prop := (∃ l, Hit f n l ∧ r = colv f l - 1) ∨ ((¬ ∃ l, Hit f n l) ∧ r = -1)

set_option maxHeartbeats 400000 in
theorem columnOf_any (b off n c : Nat) (f : Nat → Int) (w : World) (hn : n ≤ 65536) (hb : ∀ i, i < n → 0 ≤ f i ∧ f i ≤ 255)
    (hc : ∀ i, i < n → w.cell? ⟨b, off + i, none⟩ = some (.int .u8 (f i))) :
    Calls Try.prog 9 #[.slice (some ⟨b, off, none⟩) n c] w fun e w' => ∃ r, e = .returned (.int .i64 r) ∧ Ans f n r ∧ w = w' := by
  go_enter Try.func9, Try.ntmps9
  go_wp2
  go_loop [3, 4, 9] (fun col let_ i => ∃ k : Nat, k ≤ n ∧ k ≤ 3 ∧ i = .int .i64 k ∧ let_ = .int .i64 k ∧ col = .int .i64 (colv f k) ∧ ∀ j, j < k → U f j) (fun _ _ i => n - (intOf i).toNat)
  case atStart => exact ⟨0, Nat.zero_le _, by omega, rfl, rfl, rfl, fun j hj => absurd hj (by omega)⟩
  case round =>
    obtain ⟨k, hk, hk3, rfl, rfl, rfl, hU⟩ := hrel
    have cb := colv_bd f k hk3 hU
    have HU : Hid (∀ j, j < k → U f j) := hU
    clear hU
    by_cases hlt : k < n
    · have c1 := hc k hlt
      have b1 := hb k hlt
      by_cases q1 : 65 ≤ f k
      · by_cases q2 : f k ≤ 90
        · by_cases q3 : k < 3
          · go_wp2
            go_round
            case rel =>
              refine ⟨k + 1, by omega, by omega, by go_num, by go_num, by rw [colv_succ], fun j hj => ?_⟩
              by_cases e : j = k
              · subst e; exact ⟨q1, q2⟩
              · exact HU.out j (by omega)
            case measure => simp [intOf]; omega
          · go_wp2
            go_ret
            exact ⟨_, rfl, .inr ⟨no_hit_at HU.out (by unfold U; omega) (by unfold D; omega), rfl⟩, rfl⟩
        · go_wp2
          go_ret
          exact ⟨_, rfl, .inr ⟨no_hit_at HU.out (by unfold U; omega) (by unfold D; omega), rfl⟩, rfl⟩
      · by_cases q2 : 48 ≤ f k
        · by_cases q3 : f k ≤ 57
          · by_cases q4 : 0 < k
            · go_wp2
              go_ret
              exact ⟨_, rfl, .inl ⟨k, ⟨by omega, hk3, hlt, HU.out, q2, q3⟩, rfl⟩, rfl⟩
            · go_wp2
              go_ret
              exact ⟨_, rfl, .inr ⟨no_hit_at HU.out (by unfold U; omega) (by unfold D; omega), rfl⟩, rfl⟩
          · go_wp2
            go_ret
            exact ⟨_, rfl, .inr ⟨no_hit_at HU.out (by unfold U; omega) (by unfold D; omega), rfl⟩, rfl⟩
        · go_wp2
          go_ret
          exact ⟨_, rfl, .inr ⟨no_hit_at HU.out (by unfold U; omega) (by unfold D; omega), rfl⟩, rfl⟩
    · obtain rfl : k = n := by omega
      go_wp2
      go_ret
      exact ⟨_, rfl, .inr ⟨no_hit_end HU.out, rfl⟩, rfl⟩

theorem columnOf_none (a : Option Addr) (c : Nat) (f : Nat → Int) (w : World) :
    Calls Try.prog 9 #[.slice a 0 c] w fun e w' => ∃ r, e = .returned (.int .i64 r) ∧ Ans f 0 r ∧ w = w' := by
  go_enter Try.func9, Try.ntmps9
  go_wp2
  go_loop [3, 4, 9] (fun col let_ i => i = .int .i64 0) (fun _ _ i => 0)
  case atStart => rfl
  case round =>
    subst hrel
    go_wp2
    go_ret
    exact ⟨_, rfl, .inr ⟨no_hit_end (fun j hj => absurd hj (by omega)), rfl⟩, rfl⟩

def UpR (f : Nat → Int) (k : Nat) (r : Bool) : Prop := r = true ↔ ∀ j, j < k → U f j
def DigR (x : Int) (r : Bool) : Prop := r = true ↔ 48 ≤ x ∧ x ≤ 57

def RetB (e : Ending) (p : Bool → Prop) : Prop := ∃ r, e = .returned (.bool r) ∧ p r
theorem RetB.intro {p : Bool → Prop} {r : Bool} (h : p r) : RetB (.returned (.bool r)) p := ⟨r, rfl, h⟩

set_option maxHeartbeats 400000 in
theorem upper_any (b off n c k : Nat) (f : Nat → Int) (w : World) (hn : n ≤ 65536) (hk : k ≤ n) (hk3 : k ≤ 3) (hb : ∀ i, i < n → 0 ≤ f i ∧ f i ≤ 255)
    (hc : ∀ i, i < n → w.cell? ⟨b, off + i, none⟩ = some (.int .u8 (f i))) :
    Calls Try.prog 6 #[.slice (some ⟨b, off, none⟩) n c, .int .i64 k] w fun e w' => RetB e (UpR f k) ∧ w = w' := by
  go_enter Try.func6, Try.ntmps6
  go_wp2
  go_loop [5] (fun i => ∃ t : Nat, t ≤ k ∧ i = .int .i64 t ∧ ∀ j, j < t → U f j) (fun i => k - (intOf i).toNat)
  case atStart => exact ⟨0, Nat.zero_le _, rfl, fun j hj => absurd hj (by omega)⟩
  case round =>
    obtain ⟨t, ht, rfl, hU⟩ := hrel
    have HU : Hid (∀ j, j < t → U f j) := hU
    clear hU
    by_cases hlt : t < k
    · have c1 := hc t (by omega)
      have b1 := hb t (by omega)
      by_cases q1 : f t < 65
      · go_wp2
        go_ret
        refine ⟨RetB.intro (r := false) ⟨fun h => (by cases h), fun h => ?_⟩, rfl⟩
        have := h t hlt
        unfold U at this
        omega
      · by_cases q2 : 90 < f t
        · go_wp2
          go_ret
          refine ⟨RetB.intro (r := false) ⟨fun h => (by cases h), fun h => ?_⟩, rfl⟩
          have := h t hlt
          unfold U at this
          omega
        · go_wp2
          go_round
          case rel =>
            refine ⟨t + 1, by omega, by go_num, fun j hj => ?_⟩
            by_cases e : j = t
            · subst e; unfold U; omega
            · exact HU.out j (by omega)
          case measure => simp [intOf]; omega
    · obtain rfl : t = k := by omega
      go_wp2
      go_ret
      exact ⟨RetB.intro (r := true) ⟨fun _ => HU.out, fun _ => rfl⟩, rfl⟩

theorem digit_any (x : Int) (w : World) (h : 0 ≤ x ∧ x ≤ 255) :
    Calls Try.prog 7 #[.int .u8 x] w fun e w' => RetB e (DigR x) ∧ w = w' := by
  by_cases q1 : 48 ≤ x
  · by_cases q2 : x ≤ 57
    · go_enter Try.func7, Try.ntmps7
      go_wp2
      go_ret
      exact ⟨RetB.intro (r := true) ⟨fun _ => ⟨q1, q2⟩, fun _ => rfl⟩, rfl⟩
    · go_enter Try.func7, Try.ntmps7
      go_wp2
      go_ret
      exact ⟨RetB.intro (r := false) ⟨fun h => (by cases h), fun h => absurd h.2 (by omega)⟩, rfl⟩
  · go_enter Try.func7, Try.ntmps7
    go_wp2
    go_ret
    exact ⟨RetB.intro (r := false) ⟨fun h => (by cases h), fun h => absurd h.1 (by omega)⟩, rfl⟩

theorem bytes_yes (a : Option Addr) (l c : Nat) (w : World) (h : l ≤ 1048576) :
    Calls Try.prog 4 #[.slice a l c] w fun e w' => e = .returned (.bool true) ∧ w = w' := by
  go_enter Try.func4, Try.ntmps4
  go_wp2
  go_ret
  exact ⟨rfl, rfl⟩
theorem bytes_no (a : Option Addr) (l c : Nat) (w : World) (h0 : l ≤ maxLen) (h : ¬ l ≤ 1048576) :
    Calls Try.prog 4 #[.slice a l c] w fun e w' => e = .returned (.bool false) ∧ w = w' := by
  unfold maxLen at h0
  go_enter Try.func4, Try.ntmps4
  go_wp2
  go_ret
  exact ⟨rfl, rfl⟩
end Go.Proofs.Qxb6623495a
