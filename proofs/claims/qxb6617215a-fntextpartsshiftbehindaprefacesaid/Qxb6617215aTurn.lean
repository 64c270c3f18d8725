/-
  'tpMarksInTurn' AND THE BOUND ON LENGTHS, AS PLAIN FUNCTIONS.
-/
import Derived.Test.Qxb6617215aTp
namespace Go.Proofs.Qxb6617215a
open Go.RowKit
set_option linter.unusedVariables false

def RetB (e : Ending) (p : Bool → Prop) : Prop := ∃ r, e = .returned (.bool r) ∧ p r
theorem RetB.intro {p : Bool → Prop} {r : Bool} (h : p r) : RetB (.returned (.bool r)) p := ⟨r, rfl, h⟩
def TurnR (len : Nat) (M : Nat → Int) (r : Bool) : Prop := r = true ↔ Turn len M

theorem turn_false {len : Nat} {M : Nat → Int} (h : ¬ Turn len M) : TurnR len M false := ⟨fun x => (by cases x), fun x => absurd x h⟩
theorem turn_true {len : Nat} {M : Nat → Int} (h : Turn len M) : TurnR len M true := ⟨fun _ => h, fun _ => rfl⟩

set_option maxHeartbeats 1000000 in
theorem turn_any (b off len c : Nat) (M : Nat → Int) (w : World) (hl : len ≤ 65536)
    (hc : ∀ i, i < len → w.cell? ⟨b, off + i, none⟩ = some (.int .i64 (M i))) :
    Calls Try.prog 6 #[.slice (some ⟨b, off, none⟩) len c] w fun e w' => RetB e (TurnR len M) ∧ Below w.heap.size w w' := by
  have HC : Hid (∀ i, i < len → w.cell? ⟨b, off + i, none⟩ = some (.int .i64 (M i))) := hc
  clear hc
  by_cases hev : (len : Int) % 2 = 0
  · have hev' : ((len : Int) % 2 != 0) = false := by rw [hev]; rfl
    have HEV : Hid (len % 2 = 0) := by show len % 2 = 0; omega
    clear hev
    go_enter Try.func6, Try.ntmps6
    go_wp2
    go_loopw [3, 4] (fun p i wr => ∃ (k : Nat) (q : Int), k ≤ len ∧ i = .int .i64 k ∧ p = .int .i64 q ∧ Hid (k % 2 = 0 ∧ (k = 0 → q = 0) ∧ (0 < k → q = M (k - 1)) ∧ (0 < k → 0 ≤ M 0) ∧ ∀ j, j + 1 < k → M j ≤ M (j + 1)) ∧ ∃ m, wr = w.drewN m) (fun _ i _ => len - (intOf i).toNat)
    case atStart => exact ⟨0, 0, Nat.zero_le _, rfl, rfl, ⟨rfl, fun _ => rfl, fun h => absurd h (by omega), fun h => absurd h (by omega), fun j hj => absurd hj (by omega)⟩, 0, rfl⟩
    case round =>
      obtain ⟨k, q, hk, rfl, rfl, HI, m, rfl⟩ := hrel
      by_cases hlt : k + 1 < len
      · have c1 : w.cell? ⟨b, off + k, none⟩ = some (.int .i64 (M k)) := HC.out k (by omega)
        have c2 : w.cell? ⟨b, off + (k + 1), none⟩ = some (.int .i64 (M (k + 1))) := HC.out (k + 1) hlt
        have b1 : (k : Int) + 1 < (len : Int) := by omega
        have b2 : (k : Int) < (len : Int) := by omega
        generalize hx : M k = x at c1
        generalize hy : M (k + 1) = y at c2
        have HX : Hid (M k = x) := hx
        have HY : Hid (M (k + 1) = y) := hy
        clear hx hy
        by_cases q1 : x < q
        · have hnt : ¬ Turn len M := by
            intro hT
            obtain ⟨i1, i2, i3, i4, i5⟩ := HI.out
            have hx := HX.out
            by_cases hk0 : k = 0
            · have := hT.2.1 (by omega); rw [hk0] at hx; have := i2 hk0; omega
            · have h5 := hT.2.2 (k - 1) (by omega)
              rw [show k - 1 + 1 = k by omega] at h5
              have := i3 (by omega)
              omega
          have HNT : Hid (¬ Turn len M) := hnt
          clear hnt
          have d1 : decide (x < q) = true := decide_eq_true q1
          go_wp2
          go_quiet (fail)
          go_wp2
          go_ret
          exact ⟨RetB.intro (r := false) (turn_false HNT.out), below_drewN' (below_drewN' (Below.refl _ _) _) _⟩
        · have d1 : decide (x < q) = false := decide_eq_false q1
          by_cases q2 : y < x
          · have hnt : ¬ Turn len M := by
              intro hT
              have := hT.2.2 k hlt
              rw [HX.out, HY.out] at this
              omega
            have HNT : Hid (¬ Turn len M) := hnt
            clear hnt
            go_wp2
            go_quiet (fail)
            go_wp2
            go_ret
            exact ⟨RetB.intro (r := false) (turn_false HNT.out), below_drewN' (below_drewN' (Below.refl _ _) _) _⟩
          · go_wp2
            go_quiet (fail)
            go_wp2
            go_roundw
            case rel =>
              refine ⟨k + 2, y, by omega, by go_num, rfl, ?_, _, rfl⟩
              obtain ⟨i1, i2, i3, i4, i5⟩ := HI.out
              have hx := HX.out
              have hy := HY.out
              refine ⟨by omega, fun h => absurd h (by omega), fun _ => hy.symm, fun _ => ?_, fun j hj => ?_⟩
              · by_cases hk0 : k = 0
                · have := i2 hk0; rw [hk0] at hx; omega
                · exact i4 (by omega)
              · by_cases e1 : j + 1 < k
                · exact i5 j e1
                · by_cases e2 : j = k
                  · rw [e2, hx, hy]; omega
                  · have e3 : j = k - 1 := by omega
                    have := i3 (by omega)
                    rw [e3, show k - 1 + 1 = k by omega, hx]
                    omega
            case measure => simp [intOf]; omega
      · have hTT : Turn len M := by
          obtain ⟨i1, i2, i3, i4, i5⟩ := HI.out
          have := HEV.out
          obtain rfl : k = len := by omega
          exact ⟨HEV.out, i4, i5⟩
        have HTT : Hid (Turn len M) := hTT
        clear hTT
        go_wp2
        go_ret
        exact ⟨RetB.intro (r := true) (turn_true HTT.out), below_drewN' (Below.refl _ _) _⟩
  · have hev' : ((len : Int) % 2 != 0) = true := by rw [bne_iff_ne]; exact hev
    have HEV : Hid (¬ len % 2 = 0) := by show ¬ len % 2 = 0; omega
    clear hev
    go_enter Try.func6, Try.ntmps6
    go_wp2
    go_ret
    exact ⟨RetB.intro (r := false) (turn_false (fun h => HEV.out h.1)), Below.refl _ _⟩

theorem turn_none (a : Option Addr) (c : Nat) (M : Nat → Int) (w : World) :
    Calls Try.prog 6 #[.slice a 0 c] w fun e w' => e = .returned (.bool true) ∧ w = w' := by
  go_enter Try.func6, Try.ntmps6
  go_wp2
  go_loop [3, 4] (fun p i => i = .int .i64 0) (fun _ _ => 0)
  case atStart => rfl
  case round =>
    subst hrel
    go_wp2
    go_ret
    exact ⟨rfl, rfl⟩
end Go.Proofs.Qxb6617215a
