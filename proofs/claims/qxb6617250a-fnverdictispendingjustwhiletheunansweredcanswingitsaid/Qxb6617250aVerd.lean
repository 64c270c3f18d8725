/-
  'node.ZZverdict' AND THE LAW ON IT.
-/
import Derived.Test.Qxb6617250aProg
import Derived.WalkKit
import Derived.ProofKit
import Derived.WalkLawsBesides
import Derived.RegionTactic
import Derived.Deep.QuietTactic
import Derived.BigQuiet
namespace Go.Proofs.Qxb6617250a
open Go.RowKit
set_option linter.unusedVariables false

def vd (r y n l : Int) : Int := if r / 2 + 1 ≤ y then 1 else if r - l < r / 2 + 1 then 3 else if r - l - n < r / 2 + 1 then 2 else 0
def sd (r y l : Int) : Int := if r - y < y then 1 else if r - l ≤ l then 3 else 2

theorem grown_trans {a b c : World} (h : Grown a b) (k : Grown b c) : Grown a c := by
  refine ⟨World.keptBut_trans h.1 k.1, fun x => (k.2.1 x).trans (h.2.1 x), Nat.le_trans h.2.2 k.2.2⟩

set_option maxHeartbeats 1000000 in
theorem verdict_any (r y n l : Int) (w : World) (hr : r ≤ 9223372036854775807) (hy : 0 ≤ y) (hn : 0 ≤ n) (hl : 0 ≤ l) (hs : y + n + l ≤ r) :
    Calls Try.prog 15 #[.int .i64 r, .int .i64 y, .int .i64 n, .int .i64 l] w fun e w' => e = .returned (.int .i64 (vd r y n l)) ∧ Grown w w' := by
  obtain ⟨v, hv⟩ : ∃ v, v = vd r y n l := ⟨_, rfl⟩
  rw [← hv]
  unfold vd at hv
  by_cases c1 : r / 2 + 1 ≤ y
  · rw [if_pos c1] at hv
    subst hv
    go_enter Try.func15, Try.ntmps15
    go_wp2
    go_ret
    exact ⟨rfl, (Grown.refl _).alloc _ _⟩
  · rw [if_neg c1] at hv
    by_cases c2 : r - l < r / 2 + 1
    · rw [if_pos c2] at hv
      subst hv
      go_enter Try.func15, Try.ntmps15
      go_wp2
      go_ret
      exact ⟨rfl, (Grown.refl _).alloc _ _⟩
    · rw [if_neg c2] at hv
      by_cases c3 : r - l - n < r / 2 + 1
      · rw [if_pos c3] at hv
        subst hv
        go_enter Try.func15, Try.ntmps15
        go_wp2
        go_ret
        exact ⟨rfl, (Grown.refl _).alloc _ _⟩
      · rw [if_neg c3] at hv
        subst hv
        go_enter Try.func15, Try.ntmps15
        go_wp2
        go_ret
        exact ⟨rfl, (Grown.refl _).alloc _ _⟩

theorem settled_any (r y l : Int) (w : World) (hr : r ≤ 9223372036854775807) (hy : 0 ≤ y) (hl : 0 ≤ l) (hy2 : y ≤ r) (hl2 : l ≤ r) :
    Calls Try.prog 16 #[.int .i64 r, .int .i64 y, .int .i64 l] w fun e w' => e = .returned (.int .i64 (sd r y l)) ∧ w = w' := by
  obtain ⟨v, hv⟩ : ∃ v, v = sd r y l := ⟨_, rfl⟩
  rw [← hv]
  unfold sd at hv
  by_cases c1 : r - y < y
  · rw [if_pos c1] at hv
    subst hv
    go_enter Try.func16, Try.ntmps16
    go_wp2
    go_ret
    exact ⟨rfl, rfl⟩
  · rw [if_neg c1] at hv
    by_cases c2 : r - l ≤ l
    · rw [if_pos c2] at hv
      subst hv
      go_enter Try.func16, Try.ntmps16
      go_wp2
      go_ret
      exact ⟨rfl, rfl⟩
    · rw [if_neg c2] at hv
      subst hv
      go_enter Try.func16, Try.ntmps16
      go_wp2
      go_ret
      exact ⟨rfl, rfl⟩

/-! ### THE PLAIN LAW -/
theorem all_yes (r y n l : Int) (hy : 0 ≤ y) (hn : 0 ≤ n) (hl : 0 ≤ l) (hs : y + n + l ≤ r) : vd r (y + (r - y - n - l)) n l = sd r (y + (r - y - n - l)) l := by
  unfold vd sd
  repeat' split
  all_goals omega
theorem all_no (r y n l : Int) (hy : 0 ≤ y) (hn : 0 ≤ n) (hl : 0 ≤ l) (hs : y + n + l ≤ r) : vd r y (n + (r - y - n - l)) l = sd r y l := by
  unfold vd sd
  repeat' split
  all_goals omega
theorem pend (r y n l : Int) (hy : 0 ≤ y) (hn : 0 ≤ n) (hl : 0 ≤ l) (hs : y + n + l ≤ r) (h : vd r y n l = 0) : sd r (y + (r - y - n - l)) l ≠ sd r y l := by
  unfold vd at h
  unfold sd
  revert h
  repeat' split
  all_goals omega
theorem told (r y n l : Int) (hy : 0 ≤ y) (hn : 0 ≤ n) (hl : 0 ≤ l) (hs : y + n + l ≤ r) (h : vd r y n l ≠ 0) : vd r y n l = sd r (y + (r - y - n - l)) l ∧ vd r y n l = sd r y l := by
  revert h
  unfold vd sd
  repeat' split
  all_goals omega

set_option maxHeartbeats 1000000 in
theorem law_main (r y n l : Int) (w : World) (hr : r ≤ 9223372036854775807) (hr0 : 0 ≤ r) (hy : 0 ≤ y) (hn : 0 ≤ n) (hl : 0 ≤ l) (h1 : y ≤ r) (h2 : n ≤ r - y) (h3 : l ≤ r - y - n) :
    Calls Try.prog 5 #[.int .i64 r, .int .i64 y, .int .i64 n, .int .i64 l] w fun e w' => e = .returned (.bool true) ∧ Grown w w' := by
  have hs : y + n + l ≤ r := by omega
  have e1 : (vd r (y + (r - y - n - l)) n l != sd r (y + (r - y - n - l)) l) = false := by rw [all_yes r y n l hy hn hl hs]; simp
  have e2 : (vd r y (n + (r - y - n - l)) l != sd r y l) = false := by rw [all_no r y n l hy hn hl hs]; simp
  by_cases hv : vd r y n l = 0
  · have e0 : (vd r y n l == 0) = true := by rw [hv]; rfl
    have e3 : (vd r (y + (r - y - n - l)) n l != vd r y (n + (r - y - n - l)) l) = true := by
      rw [all_yes r y n l hy hn hl hs, all_no r y n l hy hn hl hs, bne_iff_ne]
      exact pend r y n l hy hn hl hs hv
    clear hv
    go_enter Try.func5, Try.ntmps5
    go_wp2_with fail
    refine (verdict_any r y n l _ hr hy hn hl hs).mono ?_
    rintro e w1 ⟨rfl, g1⟩
    go_wp2_with fail
    refine (verdict_any r (y + (r - y - n - l)) n l _ hr (by omega) hn hl (by omega)).mono ?_
    rintro e w2 ⟨rfl, g2⟩
    go_wp2_with fail
    refine (verdict_any r y (n + (r - y - n - l)) l _ hr hy (by omega) hl (by omega)).mono ?_
    rintro e w3 ⟨rfl, g3⟩
    go_wp2_with fail
    refine (settled_any r (y + (r - y - n - l)) l _ hr (by omega) hl (by omega) (by omega)).mono ?_
    rintro e w4 ⟨rfl, rfl⟩
    go_wp2_with fail
    refine (settled_any r y l _ hr hy hl (by omega) (by omega)).mono ?_
    rintro e w5 ⟨rfl, rfl⟩
    go_wp2
    go_ret
    exact ⟨rfl, grown_trans g1 (grown_trans g2 g3)⟩
  · have e0 : (vd r y n l == 0) = false := by rw [beq_eq_false_iff_ne]; exact hv
    have e3 : (vd r y n l == vd r (y + (r - y - n - l)) n l) = true := by
      rw [all_yes r y n l hy hn hl hs, beq_iff_eq]
      exact (told r y n l hy hn hl hs hv).1
    have e4 : (vd r y n l == vd r y (n + (r - y - n - l)) l) = true := by
      rw [all_no r y n l hy hn hl hs, beq_iff_eq]
      exact (told r y n l hy hn hl hs hv).2
    clear hv
    go_enter Try.func5, Try.ntmps5
    go_wp2_with fail
    refine (verdict_any r y n l _ hr hy hn hl hs).mono ?_
    rintro e w1 ⟨rfl, g1⟩
    go_wp2_with fail
    refine (verdict_any r (y + (r - y - n - l)) n l _ hr (by omega) hn hl (by omega)).mono ?_
    rintro e w2 ⟨rfl, g2⟩
    go_wp2_with fail
    refine (verdict_any r y (n + (r - y - n - l)) l _ hr hy (by omega) hl (by omega)).mono ?_
    rintro e w3 ⟨rfl, g3⟩
    go_wp2_with fail
    refine (settled_any r (y + (r - y - n - l)) l _ hr (by omega) hl (by omega) (by omega)).mono ?_
    rintro e w4 ⟨rfl, rfl⟩
    go_wp2_with fail
    refine (settled_any r y l _ hr hy hl (by omega) (by omega)).mono ?_
    rintro e w5 ⟨rfl, rfl⟩
    go_wp2
    go_ret
    exact ⟨rfl, grown_trans g1 (grown_trans g2 g3)⟩

set_option maxHeartbeats 1000000 in
theorem law_any (r y n l : Int) (w : World) (br : -9223372036854775808 ≤ r ∧ r ≤ 9223372036854775807) (by_ : -9223372036854775808 ≤ y ∧ y ≤ 9223372036854775807) (bn : -9223372036854775808 ≤ n ∧ n ≤ 9223372036854775807) (bl : -9223372036854775808 ≤ l ∧ l ≤ 9223372036854775807) :
    Calls Try.prog 5 #[.int .i64 r, .int .i64 y, .int .i64 n, .int .i64 l] w fun e w' => e = .returned (.bool true) ∧ Grown w w' := by
  by_cases c1 : r < 0
  · go_enter Try.func5, Try.ntmps5
    go_wp2
    go_ret
    exact ⟨rfl, Grown.refl _⟩
  by_cases c2 : y < 0
  · go_enter Try.func5, Try.ntmps5
    go_wp2
    go_ret
    exact ⟨rfl, Grown.refl _⟩
  by_cases c3 : n < 0
  · go_enter Try.func5, Try.ntmps5
    go_wp2
    go_ret
    exact ⟨rfl, Grown.refl _⟩
  by_cases c4 : l < 0
  · go_enter Try.func5, Try.ntmps5
    go_wp2
    go_ret
    exact ⟨rfl, Grown.refl _⟩
  by_cases c5 : r < y
  · go_enter Try.func5, Try.ntmps5
    go_wp2
    go_ret
    exact ⟨rfl, Grown.refl _⟩
  by_cases c6 : r - y < n
  · go_enter Try.func5, Try.ntmps5
    go_wp2
    go_ret
    exact ⟨rfl, Grown.refl _⟩
  by_cases c7 : r - y - n < l
  · go_enter Try.func5, Try.ntmps5
    go_wp2
    go_ret
    exact ⟨rfl, Grown.refl _⟩
  exact law_main r y n l w br.2 (by omega) (by omega) (by omega) (by omega) (by omega) (by omega) (by omega)
end Go.Proofs.Qxb6617250a
