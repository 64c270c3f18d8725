/-
  SLICES OF STRINGS: 'zzNodeB1Count', 'zzNodeB1Equal' AS PLAIN FUNCTIONS.
-/
import Derived.Test.Qxb6617250aProg
import Derived.Test.Qxb6617250aMem
import Derived.WalkKit
import Derived.ProofKit
import Derived.WalkLawsBesides
import Derived.WalkSpells
import Derived.RegionTactic
import Derived.Deep.QuietTactic
import Derived.BigQuiet
namespace Go.Proofs.Qxb6617250a
open Go.RowKit
set_option linter.unusedVariables false

theorem bytes_eq_iff (a b : ByteArray) : (a.toList == b.toList) = decide (a = b) := by
  rw [ByteArray.toList_eq, ByteArray.toList_eq]
  by_cases h : a = b
  · subst h; simp
  · rw [decide_eq_false h, beq_eq_false_iff_ne]
    intro e
    exact h (WideShapes.bytes_inj e)
theorem same_yes {a b : ByteArray} (h : a = b) : (a.toList == b.toList) = true := by rw [bytes_eq_iff]; exact decide_eq_true h
theorem same_no {a b : ByteArray} (h : ¬ a = b) : (a.toList == b.toList) = false := by rw [bytes_eq_iff]; exact decide_eq_false h

/-- The slice value v holds the strings S. -/
def SR (w : World) (v : Value) (S : List ByteArray) : Prop :=
  ∃ a cap, v = .slice a S.length cap ∧ (0 < S.length → ∃ b off, a = some ⟨b, off, none⟩ ∧ b < w.heap.size ∧ ∀ j s, S[j]? = some s → w.cell? ⟨b, off + j, none⟩ = some (.string s))
theorem SR.keep {w w' : World} {v : Value} {S : List ByteArray} (h : SR w v S) (hb : Below w.heap.size w w') : SR w' v S := by
  obtain ⟨a, cap, hv, h⟩ := h
  refine ⟨a, cap, hv, fun h0 => ?_⟩
  obtain ⟨b, off, h1, h2, h3⟩ := h h0
  exact ⟨b, off, h1, Nat.lt_of_lt_of_le h2 hb.size, fun j s hj => (hb.cell (by exact h2)).trans (h3 j s hj)⟩

def cntS (d : ByteArray) : List ByteArray → Nat
  | [] => 0
  | s :: r => (if s = d then 1 else 0) + cntS d r
theorem cntS_le (d : ByteArray) (S : List ByteArray) : cntS d S ≤ S.length := by
  induction S with
  | nil => exact Nat.le_refl _
  | cons s r ih => simp only [cntS, List.length_cons]; split <;> omega
theorem drop_atS {R : List ByteArray} {j : Nat} (h : j < R.length) : ∃ s, R[j]? = some s ∧ R.drop j = s :: R.drop (j + 1) :=
  ⟨R[j], by rw [List.getElem?_eq_getElem h], by rw [List.drop_eq_getElem_cons h]⟩

set_option maxHeartbeats 1000000 in
theorem count_any (v : Value) (S : List ByteArray) (d : ByteArray) (w : World) (h : SR w v S) (hl : S.length ≤ 1048576) :
    Calls Try.prog 9 #[v, .string d] w fun e w' => e = .returned (.int .i64 (cntS d S : Nat)) ∧ w = w' := by
  obtain ⟨a, cap, rfl, h⟩ := h
  have hcl := cntS_le d S
  obtain ⟨C, hC⟩ : ∃ C, C = cntS d S := ⟨_, rfl⟩
  rw [← hC] at hcl ⊢
  have HCC : Hid (C = cntS d S) := hC
  have HH : Hid _ := h
  clear hC h
  go_enter Try.func9, Try.ntmps9
  go_wp2
  go_loop [5, 6] (fun c i => ∃ k r : Nat, k ≤ S.length ∧ r ≤ C ∧ i = .int .i64 k ∧ c = .int .i64 r ∧ Hid (r + cntS d (S.drop k) = C)) (fun _ i => S.length - (intOf i).toNat)
  case atStart => exact ⟨0, 0, by omega, by omega, rfl, rfl, by show 0 + cntS d (S.drop 0) = C; rw [HCC.out]; simp⟩
  case round =>
    obtain ⟨k, r, hk, hr, rfl, rfl, HI⟩ := hrel
    by_cases hlt : k < S.length
    · obtain ⟨b, off, rfl, hb1, hb2⟩ := HH.out (by omega)
      obtain ⟨s, hs1, hs2⟩ := drop_atS hlt
      have c1 := hb2 k s hs1
      have h1 := HI.out
      rw [hs2] at h1
      clear hs1 hs2 hb2
      by_cases he : s = d
      · have HS : Hid (r + 1 + cntS d (S.drop (k + 1)) = C) := by show _ = _; rw [← h1]; simp only [cntS, if_pos he]; omega
        have hr1 : r + 1 ≤ C := by have := HS.out; omega
        have hq := same_yes he
        clear h1 he
        go_wp2
        go_round
        case rel => exact ⟨k + 1, r + 1, by omega, by omega, by go_num, by go_num, HS.out⟩
        case measure => simp [intOf]; omega
      · have HS : Hid (r + cntS d (S.drop (k + 1)) = C) := by show _ = _; rw [← h1]; simp only [cntS, if_neg he]; omega
        have hq := same_no he
        clear h1 he
        go_wp2
        go_round
        case rel => exact ⟨k + 1, r, by omega, by omega, by go_num, by go_num, HS.out⟩
        case measure => simp [intOf]; omega
    · have hrc : r = C := by
        have h1 := HI.out
        rw [List.drop_of_length_le (by omega)] at h1
        simpa [cntS] using h1
      subst hrc
      go_wp2
      go_ret
      exact ⟨rfl, rfl⟩

set_option maxHeartbeats 1000000 in
theorem equal_yes (v v' : Value) (S : List ByteArray) (w : World) (h : SR w v S) (h' : SR w v' S) (hl : S.length ≤ 1048576) :
    Calls Try.prog 12 #[v, v'] w fun e w' => e = .returned (.bool true) ∧ Below w.heap.size w w' := by
  obtain ⟨a, cap, rfl, h⟩ := h
  obtain ⟨a', cap', rfl, h'⟩ := h'
  have HH : Hid _ := h
  have HH' : Hid _ := h'
  clear h h'
  go_enter Try.func12, Try.ntmps12
  go_wp2
  go_loopw [5] (fun i wr => ∃ k : Nat, k ≤ S.length ∧ i = .int .i64 k ∧ ∃ q, wr = w.drewN q) (fun i _ => S.length - (intOf i).toNat)
  case atStart => exact ⟨0, by omega, rfl, 0, rfl⟩
  case round =>
    obtain ⟨k, hk, rfl, q, rfl⟩ := hrel
    by_cases hlt : k < S.length
    · obtain ⟨b, off, rfl, hb1, hb2⟩ := HH.out (by omega)
      obtain ⟨b', off', rfl, hb1', hb2'⟩ := HH'.out (by omega)
      obtain ⟨s, hs1, hs2⟩ := drop_atS hlt
      have c1 := hb2 k s hs1
      have c2 := hb2' k s hs1
      have b1 : (k : Int) < (S.length : Int) := by omega
      clear hs1 hs2 hb2 hb2'
      go_wp2
      go_quiet (fail)
      go_wp2
      go_roundw
      case rel => exact ⟨k + 1, by omega, by go_num, _, rfl⟩
      case measure => simp [intOf]; omega
    · go_wp2
      go_ret
      exact ⟨rfl, below_drewN' (Below.refl _ _) _⟩
end Go.Proofs.Qxb6617250a
