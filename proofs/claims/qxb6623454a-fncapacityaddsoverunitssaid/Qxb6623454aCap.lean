/-
  '(*heldTable).capacity' AS A PLAIN FUNCTION.
-/
import Derived.Test.Qxb6623454aProg
import Derived.Test.Qxb6623454aMem
import Derived.WalkKit
import Derived.ProofKit
import Derived.WalkLawsBesides
import Derived.RegionTactic
import Derived.Deep.QuietTactic
import Derived.BigQuiet
namespace Go.Proofs.Qxb6623454a
open Go.RowKit
set_option maxHeartbeats 400000 in
theorem cap_zero (hb g1 gs n : Nat) (jTop t0 : Int) (w : World)
   (h5 : w.cell? ⟨hb, 5, none⟩ = some (.int .i64 0)) (h4 : w.cell? ⟨hb, 4, none⟩ = some (.int .i64 jTop))
   (h1 : w.cell? ⟨hb, 1, none⟩ = some (.slice (some ⟨g1, 0, none⟩) 1 1)) (h0 : w.cell? ⟨g1, 0, none⟩ = some (.slice (some ⟨gs, 0, none⟩) n n)) (hn : 0 < n) (ht : w.cell? ⟨gs, 1, none⟩ = some (.int .i64 t0)) :
   Calls Try.prog 7 #[.pointer (some ⟨hb, 0, none⟩), .int .i64 0] w fun e w' => e = .returned (.tuple #[.int .i64 (min t0 jTop), .int .i64 0]) ∧ Below w.heap.size w w' := by
  go_enter Try.func7, Try.ntmps7
  go_wp2
  go_quiet (fail)
  go_wp2
  all_goals
    go_ret2
    exact ⟨by simp [*] <;> omega, below_drewN' (Below.refl _ _) _⟩

def S (f : Nat → Int) : Nat → Int
  | 0 => 0
  | k + 1 => S f k + f k
theorem S_bd (f : Nat → Int) (M : Int) (_hM : 0 ≤ M) (n : Nat) (h : ∀ i, i < n → -M ≤ f i ∧ f i ≤ M) : ∀ k : Nat, k ≤ n → -(M * k) ≤ S f k ∧ S f k ≤ M * k := by
  intro k
  induction k with
  | zero => intro _; simp [S]
  | succ k ih =>
    intro hk
    have h1 := ih (by omega)
    have h2 := h k (by omega)
    simp only [S]
    have : M * ((k + 1 : Nat) : Int) = M * k + M := by rw [Int.natCast_succ, Int.mul_add, Int.mul_one]
    omega

set_option maxHeartbeats 400000 in
theorem cap_pos (hb g1 gs n : Nat) (jTop hTop : Int) (F T : Nat → Int) (w : World)
   (h5 : w.cell? ⟨hb, 5, none⟩ = some (.int .i64 hTop)) (hh : (hTop == 0) = false) (h4 : w.cell? ⟨hb, 4, none⟩ = some (.int .i64 jTop))
   (h1 : w.cell? ⟨hb, 1, none⟩ = some (.slice (some ⟨g1, 0, none⟩) 1 1)) (h0 : w.cell? ⟨g1, 0, none⟩ = some (.slice (some ⟨gs, 0, none⟩) n n)) (hn : n ≤ 65536)
   (hbh : hb < w.heap.size) (hgs : gs < w.heap.size)
   (hT : ∀ i, i < n → w.cell? ⟨gs, i * 2 + 1, none⟩ = some (.int .i64 (T i))) (hF : ∀ i, i < n → w.cell? ⟨gs, i * 2, none⟩ = some (.int .i64 (F i))) 
   (hTb : ∀ i, i < n → -70368744177663 ≤ T i ∧ T i ≤ 70368744177663) :
   Calls Try.prog 7 #[.pointer (some ⟨hb, 0, none⟩), .int .i64 0] w fun e w' => e = .returned (.tuple #[.int .i64 (min (n : Int) jTop), .int .i64 (min (S T n) hTop)]) ∧ Below w.heap.size w w' := by
  have sb := S_bd T 70368744177663 (by omega) n hTb
  have SB := fun k (h : k ≤ n) => (show Hid _ from sb k h)
  clear sb
  go_enter Try.func7, Try.ntmps7
  go_wp2
  go_loopw [4, 5, 36] (fun j h i wr => ∃ k : Nat, k ≤ n ∧ i = .int .i64 k ∧ j = .int .i64 k ∧ h = .int .i64 (S T k) ∧ Below w.heap.size w wr) (fun _ _ i _ => n - (intOf i).toNat)
  case atStart => exact ⟨0, Nat.zero_le _, rfl, rfl, rfl, Below.refl _ _⟩
  case round =>
    obtain ⟨k, hk, rfl, rfl, rfl, hbel⟩ := hrel
    have hz := hbel.size
    have sb := (SB k hk).out
    by_cases hlt : k < n
    · have c1 : wr.cell? ⟨gs, k * 2 + 1, none⟩ = some (.int .i64 (T k)) := (hbel.cell (by exact hgs)).trans (hT k hlt)
      have c0 : wr.cell? ⟨gs, k * 2, none⟩ = some (.int .i64 (F k)) := (hbel.cell (by exact hgs)).trans (hF k hlt)
      have tb := hTb k hlt
      go_wp2
      go_quiet (fail)
      go_wp2
      go_roundw
      case rel => exact ⟨k + 1, by omega, by go_num, by go_num, rfl, below_drewN' (hbel.alloc (by omega) _) _⟩
      case measure => simp [intOf]; omega
    · have hkn : k = n := by omega
      subst hkn
      have e5 : wr.cell? ⟨hb, 5, none⟩ = some (.int .i64 hTop) := (hbel.cell (by exact hbh)).trans h5
      have e4 : wr.cell? ⟨hb, 4, none⟩ = some (.int .i64 jTop) := (hbel.cell (by exact hbh)).trans h4
      go_wp2
      go_quiet (fail)
      all_goals go_wp2
      all_goals go_ret2
      all_goals exact ⟨by simp [*] <;> omega, below_drewN' hbel _⟩
end Go.Proofs.Qxb6623454a
