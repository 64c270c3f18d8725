/-
  'loomwork.textParts' AS A PLAIN FUNCTION.
-/
import Derived.Test.Qxb6617215aProg
import Derived.Test.Qxb6617215aMem
import Derived.Test.Qxb6617215aPlain
import Derived.WalkKit
import Derived.ProofKit
import Derived.WalkLawsBesides
import Derived.WalkSpells
import Derived.RegionTactic
import Derived.Deep.QuietTactic
import Derived.BigQuiet
namespace Go.Proofs.Qxb6617215a
open Go.RowKit
set_option linter.unusedVariables false

def cellsOf (T : ByteArray) : List Part → List Value
  | [] => []
  | (a, b, f) :: r => .string (T.extract a b) :: .bool f :: cellsOf T r
theorem cellsOf_append (T : ByteArray) (A B : List Part) : cellsOf T (A ++ B) = cellsOf T A ++ cellsOf T B := by
  induction A with
  | nil => rfl
  | cons x r ih => obtain ⟨a, b, f⟩ := x; simp [cellsOf, ih]
theorem cellsOf_get (T : ByteArray) : ∀ (A : List Part) (j : Nat) (a b : Nat) (f : Bool), A[j]? = some (a, b, f) → (cellsOf T A)[j * 2]? = some (.string (T.extract a b)) ∧ (cellsOf T A)[j * 2 + 1]? = some (.bool f) := by
  intro A
  induction A with
  | nil => intro j a b f h; simp at h
  | cons x r ih =>
    intro j a b f h
    obtain ⟨a', b', f'⟩ := x
    cases j with
    | zero => simp at h; obtain ⟨rfl, rfl, rfl⟩ := h; simp [cellsOf]
    | succ j =>
      have := ih j a b f (by simpa using h)
      rw [show (j + 1) * 2 = j * 2 + 2 by omega]
      exact this

theorem info28 : (Try.prog.info? 28).map (fun i => (i.zero, i.size, i.bytes)) = some (some (.agg #[.string ByteArray.empty, .bool false]), 2, 24) := by kernel_rfl


theorem push_below {B : Nat} {w wr w2 : World} {v : Value} {n : Nat} {xs : List Value} {o : Obj} (hbel : Below B w wr) (hB : B ≤ wr.heap.size) (hown : wr.ownsRow B 28 2 v n xs) (hgr : (wr.alloc o).grownBy w2 v.ownBlock) : Below B w w2 ∧ B ≤ w2.heap.size := by
  have hs := hgr.size
  simp at hs
  exact ⟨(hbel.alloc hB o).grown hgr (by simp; omega) (fun k hk => (hown.lt k hk).1), by omega⟩
theorem row_shape {w : World} {B : Nat} {e : TypeId} {size : Nat} {v : Value} {n : Nat} {xs : List Value} (h : w.ownsRow B e size v n xs) (hn : v ≠ .slice none 0 0) : ∃ g cap, v = .slice (some ⟨g, 0, none⟩) n cap := by
  rcases h.2 with ⟨h1, _⟩ | ⟨g, cap, cur, hv, _⟩
  · exact absurd h1 hn
  · exact ⟨g, cap, hv⟩
theorem ownsRow_drewN {w : World} {base : Nat} {e : TypeId} {size : Nat} {v : Value} {n : Nat} {xs : List Value} (h : w.ownsRow base e size v n xs) (q : Nat) : (w.drewN q).ownsRow base e size v n xs := h
theorem two_oneCell (s : ByteArray) (f : Bool) : ∀ u ∈ [Value.string s, Value.bool f], u.oneCell' = true := by
  intro u hu
  simp at hu
  rcases hu with rfl | rfl <;> rfl
theorem list_one (A : List Part) (x : Part) (f : List Part) (R : List Part) (h : A ++ (x :: f) = R) : (A ++ [x]) ++ f = R := by rw [← h]; simp
theorem min_le {e n : Nat} (h : e ≤ n) : fin n (e : Int) = e := by unfold fin; omega
theorem min_gt {e n : Nat} (h : ¬ e ≤ n) : fin n (e : Int) = n := by unfold fin; omega

theorem tp_fuel {n len : Nat} {M : Nat → Int} : ∀ {f g i a : Nat}, len ≤ i + f → len ≤ i + g → tp n len M f i a = tp n len M g i a := by
  intro f
  induction f with
  | zero =>
    intro g i a h1 h2
    rw [tp_stop (by omega), tp_stop (by omega)]
  | succ f ih =>
    intro g i a h1 h2
    by_cases h : i < len ∧ M i < (n : Int)
    · obtain ⟨g', rfl⟩ : ∃ g', g = g' + 1 := ⟨g - 1, by omega⟩
      rw [tp_go h.1 h.2, tp_go h.1 h.2, ih (g := g') (by omega) (by omega)]
    · rw [tp_stop h, tp_stop h]
set_option maxHeartbeats 4000000 in
theorem textParts_any (T : ByteArray) (b off len c : Nat) (M : Nat → Int) (w : World) (hn : T.size ≤ 131072) (hl : len ≤ 65536) (hT : Turn len M) (hbw : b < w.heap.size)
    (hc : ∀ i, i < len → w.cell? ⟨b, off + i, none⟩ = some (.int .i64 (M i))) :
    Calls Try.prog 9 #[.string T, .slice (some ⟨b, off, none⟩) len c] w fun e w' => ∃ g cap, e = .returned (.slice (some ⟨g, 0, none⟩) (tp T.size len M len 0 0).length cap) ∧ w'.ownsRow w.heap.size 28 2 (.slice (some ⟨g, 0, none⟩) (tp T.size len M len 0 0).length cap) (tp T.size len M len 0 0).length (cellsOf T (tp T.size len M len 0 0)) ∧ Below w.heap.size w w' := by
  obtain ⟨i0, hi, hz0, hz1, hz2⟩ := info_parts info28
  have HT : Hid (Turn len M) := hT
  have HC : Hid (∀ i, i < len → w.cell? ⟨b, off + i, none⟩ = some (.int .i64 (M i))) := hc
  clear hT hc
  obtain ⟨R, hR⟩ : ∃ R, R = tp T.size len M len 0 0 := ⟨_, rfl⟩
  rw [← hR]
  have HR : Hid (R = tp T.size len M len 0 0) := hR
  clear hR
  go_enter Try.func9, Try.ntmps9
  go_wp2_with (at_make; refine wpList_make_own _ rfl _ _ 25 rfl w.heap.size 28 i0 _ 2 Try.underlying25 hi hz0 hz1 .i64 .i64 _ (len + 1) rfl rfl (by omega) (by rw [hz2]; omega) (by unfold maxLen; omega) (Nat.le_refl _) ?_; intro w1 hown hgr)
  have hB1 : Below w.heap.size w w1 := (Below.refl _ _).grown hgr (Nat.le_refl _) (fun k hk => by cases hk)
  clear hgr
  go_loopw [5, 6, 7] (fun v at_ i wr => ∃ (k a : Nat) (A : List Part), i = .int .i64 k ∧ at_ = .int .i64 a ∧ k ≤ len ∧ k % 2 = 0 ∧ a ≤ T.size ∧ (k < len → (a : Int) ≤ M k) ∧ A ++ tp T.size len M (len - k) k a = R ∧ A.length ≤ k ∧ wr.ownsRow w.heap.size 28 2 v A.length (cellsOf T A) ∧ Hid (v ≠ .slice none 0 0) ∧ Below w.heap.size w wr) (fun _ _ i _ => len - (intOf i).toNat)
  case atStart => exact ⟨0, 0, [], rfl, rfl, Nat.zero_le _, rfl, Nat.zero_le _, fun h => by have := HT.out.2.1 h; omega, by rw [HR.out]; rfl, Nat.le_refl _, hown, (by intro h; cases h), hB1⟩
  case round =>
    clear hown
    obtain ⟨k, a, A, rfl, rfl, hk, hk2, ha, hak, hA, hAl, hown, hnn, hbel⟩ := hrel
    have HA : Hid (A ++ tp T.size len M (len - k) k a = R) := hA
    clear hA
    have hzz := hbel.size
    by_cases hlt : k < len
    · have hk1 : k + 1 < len := by have := HT.out.1; omega
      have c1 : wr.cell? ⟨b, off + k, none⟩ = some (.int .i64 (M k)) := (hbel.cell (by exact hbw)).trans (HC.out k hlt)
      by_cases hms : M k < (T.size : Int)
      · have c2 : wr.cell? ⟨b, off + (k + 1), none⟩ = some (.int .i64 (M (k + 1))) := (hbel.cell (by exact hbw)).trans (HC.out (k + 1) hk1)
        have hm0 := HT.out.nonneg k hlt
        have hm1 := HT.out.2.2 k hk1
        have hak' := hak hlt
        have HN : Hid (k + 2 < len → M (k + 1) ≤ M (k + 2)) := fun h => HT.out.2.2 (k + 1) h
        have HTP : Hid (tp T.size len M (len - k) k a = gap a (M k) ++ ((M k).toNat, fin T.size (M (k + 1)), true) :: tp T.size len M (len - (k + 2)) (k + 2) (fin T.size (M (k + 1)))) := by
          show tp T.size len M (len - k) k a = _
          rw [tp_fuel (f := len - k) (g := (len - k - 1) + 1) (i := k) (by omega) (by omega), tp_go hlt hms, tp_fuel (f := len - k - 1) (g := len - (k + 2)) (i := k + 2) (by omega) (by omega)]
        clear hak
        obtain ⟨s, hs⟩ : ∃ s : Nat, M k = (s : Int) := ⟨(M k).toNat, by omega⟩
        obtain ⟨e, he⟩ : ∃ e : Nat, M (k + 1) = (e : Int) := ⟨(M (k + 1)).toNat, by omega⟩
        rw [hs] at c1 hms hm0 hm1 hak' HTP
        rw [he] at c2 hm1 HN HTP
        clear hs he
        have b1 : (k : Int) + 1 < (len : Int) := by omega
        have g1 : a ≤ s := by omega
        have g2 : s ≤ e := by omega
        have g3 : s < T.size := by omega
        clear hm0 hm1
        by_cases hg : a < s
        · have HG : Hid (gap a (s : Int) = [(a, s, false)]) := by show gap a (s : Int) = _; unfold gap; rw [if_pos (by omega)]; simp
          by_cases hen : e ≤ T.size
          · have hen' : ¬ T.size < e := by omega
            go_wp2
            go_quiet (fail)
            go_wp2_with (first | (at_builtin; refine wpList_append_own _ rfl (.tmp 44) (.tmp 50) 25 rfl w.heap.size 28 i0 _ 2 24 Try.underlying25 hi hz0 hz1 hz2 rfl (by decide) _ A.length (cellsOf T A) rfl ((ownsRow_drewN hown _).alloc _) ⟨wr.heap.size, 0, none⟩ 1 1 [.string (T.extract a s), .bool false] rfl rfl (cell_two_new _ _ _ _) (two_oneCell _ _) (by unfold maxLen; omega) (by omega) (by simp; omega) ?_; intro v2 w2 hown2 hgr2 hnil2; obtain ⟨hp2, hz2'⟩ := push_below (below_drewN' hbel _) hzz (ownsRow_drewN hown _) hgr2; clear hgr2 hnil2) | (at_builtin; refine wpList_append_own _ rfl (.tmp 52) (.tmp 58) 25 rfl w.heap.size 28 i0 _ 2 24 Try.underlying25 hi hz0 hz1 hz2 rfl (by decide) v2 (A.length + 1) (cellsOf T A ++ [.string (T.extract a s), .bool false]) rfl (hown2.alloc _) ⟨w2.heap.size, 0, none⟩ 1 1 [.string (T.extract s e), .bool true] rfl rfl (cell_two_new _ _ _ _) (two_oneCell _ _) (by unfold maxLen; omega) (by omega) (by simp; omega) ?_; intro v3 w3 hown3 hgr3 hnil3; have hp3 := push_below hp2 hz2' hown2 hgr3; have hnn3 : Hid (v3 ≠ .slice none 0 0) := (fun h => by have := (hnil3.1 h).2; omega); clear hgr3 hnil3))
            go_roundw
            case rel =>
              refine ⟨k + 2, e, A ++ [(a, s, false), (s, e, true)], by go_num, rfl, by omega, by omega, by omega, fun h => ?_, ?_, by simp; omega, ?_, hnn3, hp3.1⟩
              · have := HN.out h; omega
              · rw [← HA.out, HTP.out, HG.out, min_le hen]; simp
              · rw [cellsOf_append]; simpa [cellsOf] using hown3
            case measure => simp [intOf]; omega
          · have hen' : T.size < e := by omega
            go_wp2
            go_quiet (fail)
            go_wp2_with (first | (at_builtin; refine wpList_append_own _ rfl (.tmp 44) (.tmp 50) 25 rfl w.heap.size 28 i0 _ 2 24 Try.underlying25 hi hz0 hz1 hz2 rfl (by decide) _ A.length (cellsOf T A) rfl ((ownsRow_drewN hown _).alloc _) ⟨wr.heap.size, 0, none⟩ 1 1 [.string (T.extract a s), .bool false] rfl rfl (cell_two_new _ _ _ _) (two_oneCell _ _) (by unfold maxLen; omega) (by omega) (by simp; omega) ?_; intro v2 w2 hown2 hgr2 hnil2; obtain ⟨hp2, hz2'⟩ := push_below (below_drewN' hbel _) hzz (ownsRow_drewN hown _) hgr2; clear hgr2 hnil2) | (at_builtin; refine wpList_append_own _ rfl (.tmp 52) (.tmp 58) 25 rfl w.heap.size 28 i0 _ 2 24 Try.underlying25 hi hz0 hz1 hz2 rfl (by decide) v2 (A.length + 1) (cellsOf T A ++ [.string (T.extract a s), .bool false]) rfl (hown2.alloc _) ⟨w2.heap.size, 0, none⟩ 1 1 [.string (T.extract s T.size), .bool true] rfl rfl (cell_two_new _ _ _ _) (two_oneCell _ _) (by unfold maxLen; omega) (by omega) (by simp; omega) ?_; intro v3 w3 hown3 hgr3 hnil3; have hp3 := push_below hp2 hz2' hown2 hgr3; have hnn3 : Hid (v3 ≠ .slice none 0 0) := (fun h => by have := (hnil3.1 h).2; omega); clear hgr3 hnil3))
            go_roundw
            case rel =>
              refine ⟨k + 2, T.size, A ++ [(a, s, false), (s, T.size, true)], by go_num, rfl, by omega, by omega, by omega, fun h => ?_, ?_, by simp; omega, ?_, hnn3, hp3.1⟩
              · have := HN.out h; omega
              · rw [← HA.out, HTP.out, HG.out, min_gt hen]; simp
              · rw [cellsOf_append]; simpa [cellsOf] using hown3
            case measure => simp [intOf]; omega
        · have HG : Hid (gap a (s : Int) = []) := by show gap a (s : Int) = _; unfold gap; rw [if_neg (by omega)]
          by_cases hen : e ≤ T.size
          · have hen' : ¬ T.size < e := by omega
            go_wp2
            go_quiet (fail)
            go_wp2_with ((at_builtin; refine wpList_append_own _ rfl (.tmp 52) (.tmp 58) 25 rfl w.heap.size 28 i0 _ 2 24 Try.underlying25 hi hz0 hz1 hz2 rfl (by decide) _ A.length (cellsOf T A) rfl ((ownsRow_drewN hown _).alloc _) ⟨wr.heap.size, 0, none⟩ 1 1 [.string (T.extract s e), .bool true] rfl rfl (cell_two_new _ _ _ _) (two_oneCell _ _) (by unfold maxLen; omega) (by omega) (by simp; omega) ?_; intro v3 w3 hown3 hgr3 hnil3; have hp3 := push_below (below_drewN' hbel _) hzz (ownsRow_drewN hown _) hgr3; have hnn3 : Hid (v3 ≠ .slice none 0 0) := (fun h => by have := (hnil3.1 h).2; omega); clear hgr3 hnil3))
            go_roundw
            case rel =>
              refine ⟨k + 2, e, A ++ [(s, e, true)], by go_num, rfl, by omega, by omega, by omega, fun h => ?_, ?_, by simp; omega, ?_, hnn3, hp3.1⟩
              · have := HN.out h; omega
              · rw [← HA.out, HTP.out, HG.out, min_le hen]; simp
              · rw [cellsOf_append]; simpa [cellsOf] using hown3
            case measure => simp [intOf]; omega
          · have hen' : T.size < e := by omega
            go_wp2
            go_quiet (fail)
            go_wp2_with ((at_builtin; refine wpList_append_own _ rfl (.tmp 52) (.tmp 58) 25 rfl w.heap.size 28 i0 _ 2 24 Try.underlying25 hi hz0 hz1 hz2 rfl (by decide) _ A.length (cellsOf T A) rfl ((ownsRow_drewN hown _).alloc _) ⟨wr.heap.size, 0, none⟩ 1 1 [.string (T.extract s T.size), .bool true] rfl rfl (cell_two_new _ _ _ _) (two_oneCell _ _) (by unfold maxLen; omega) (by omega) (by simp; omega) ?_; intro v3 w3 hown3 hgr3 hnil3; have hp3 := push_below (below_drewN' hbel _) hzz (ownsRow_drewN hown _) hgr3; have hnn3 : Hid (v3 ≠ .slice none 0 0) := (fun h => by have := (hnil3.1 h).2; omega); clear hgr3 hnil3))
            go_roundw
            case rel =>
              refine ⟨k + 2, T.size, A ++ [(s, T.size, true)], by go_num, rfl, by omega, by omega, by omega, fun h => ?_, ?_, by simp; omega, ?_, hnn3, hp3.1⟩
              · have := HN.out h; omega
              · rw [← HA.out, HTP.out, HG.out, min_gt hen]; simp
              · rw [cellsOf_append]; simpa [cellsOf] using hown3
            case measure => simp [intOf]; omega
      · have hno : ¬ (k < len ∧ M k < (T.size : Int)) := by omega
        have HE : Hid (A ++ tail T.size a = R) := by show A ++ tail T.size a = R; rw [← HA.out, tp_stop hno]
        clear hno hak
        by_cases hat : a < T.size
        · have hRA : A ++ [(a, T.size, false)] = R := by have := HE.out; unfold tail at this; rwa [if_pos hat] at this
          have HRA : Hid (A ++ [(a, T.size, false)] = R) := hRA
          clear hRA HE HA
          go_wp2_with (at_builtin; refine wpList_append_own _ rfl (.tmp 65) (.tmp 70) 25 rfl w.heap.size 28 i0 _ 2 24 Try.underlying25 hi hz0 hz1 hz2 rfl (by decide) _ A.length (cellsOf T A) rfl (hown.alloc _) ⟨wr.heap.size, 0, none⟩ 1 1 [.string (T.extract a T.size), .bool false] rfl rfl (cell_two_new _ _ _ _) (two_oneCell _ _) (by unfold maxLen; omega) (by omega) (by simp; omega) ?_; intro v3 w3 hown3 hgr3 hnil3; have hp3 := push_below hbel hzz hown hgr3; have hnn3 : Hid (v3 ≠ .slice none 0 0) := (fun h => by have := (hnil3.1 h).2; omega); clear hgr3 hnil3)
          go_ret
          obtain ⟨g, cap, hv⟩ := row_shape hown3 hnn3.out
          have e1 : cellsOf T R = cellsOf T A ++ [.string (T.extract a T.size), .bool false] := by rw [← HRA.out, cellsOf_append]; rfl
          have e2 : R.length = A.length + 1 := by rw [← HRA.out]; simp
          rw [e1, e2]
          exact ⟨g, cap, congrArg Ending.returned hv, hv ▸ hown3, hp3.1⟩
        · have hRA : A = R := by have := HE.out; unfold tail at this; rwa [if_neg hat, List.append_nil] at this
          have HRA : Hid (A = R) := hRA
          clear hRA HE HA
          go_wp2
          go_ret
          obtain ⟨g, cap, hv⟩ := row_shape hown hnn.out
          rw [← HRA.out]
          exact ⟨g, cap, congrArg Ending.returned hv, hv ▸ hown, hbel⟩
    · have hno : ¬ (k < len ∧ M k < (T.size : Int)) := by omega
      have HE : Hid (A ++ tail T.size a = R) := by show A ++ tail T.size a = R; rw [← HA.out, tp_stop hno]
      clear hno hak
      by_cases hat : a < T.size
      · have hRA : A ++ [(a, T.size, false)] = R := by have := HE.out; unfold tail at this; rwa [if_pos hat] at this
        have HRA : Hid (A ++ [(a, T.size, false)] = R) := hRA
        clear hRA HE HA
        go_wp2_with (at_builtin; refine wpList_append_own _ rfl (.tmp 65) (.tmp 70) 25 rfl w.heap.size 28 i0 _ 2 24 Try.underlying25 hi hz0 hz1 hz2 rfl (by decide) _ A.length (cellsOf T A) rfl (hown.alloc _) ⟨wr.heap.size, 0, none⟩ 1 1 [.string (T.extract a T.size), .bool false] rfl rfl (cell_two_new _ _ _ _) (two_oneCell _ _) (by unfold maxLen; omega) (by omega) (by simp; omega) ?_; intro v3 w3 hown3 hgr3 hnil3; have hp3 := push_below hbel hzz hown hgr3; have hnn3 : Hid (v3 ≠ .slice none 0 0) := (fun h => by have := (hnil3.1 h).2; omega); clear hgr3 hnil3)
        go_ret
        obtain ⟨g, cap, hv⟩ := row_shape hown3 hnn3.out
        have e1 : cellsOf T R = cellsOf T A ++ [.string (T.extract a T.size), .bool false] := by rw [← HRA.out, cellsOf_append]; rfl
        have e2 : R.length = A.length + 1 := by rw [← HRA.out]; simp
        rw [e1, e2]
        exact ⟨g, cap, congrArg Ending.returned hv, hv ▸ hown3, hp3.1⟩
      · have hRA : A = R := by have := HE.out; unfold tail at this; rwa [if_neg hat, List.append_nil] at this
        have HRA : Hid (A = R) := hRA
        clear hRA HE HA
        go_wp2
        go_ret
        obtain ⟨g, cap, hv⟩ := row_shape hown hnn.out
        rw [← HRA.out]
        exact ⟨g, cap, congrArg Ending.returned hv, hv ▸ hown, hbel⟩

set_option maxHeartbeats 1000000 in
theorem textParts_none (T : ByteArray) (ad : Option Addr) (c : Nat) (M : Nat → Int) (w : World) (hn : T.size ≤ 131072) :
    Calls Try.prog 9 #[.string T, .slice ad 0 c] w fun e w' => ∃ g cap, e = .returned (.slice (some ⟨g, 0, none⟩) (tp T.size 0 M 0 0 0).length cap) ∧ w'.ownsRow w.heap.size 28 2 (.slice (some ⟨g, 0, none⟩) (tp T.size 0 M 0 0 0).length cap) (tp T.size 0 M 0 0 0).length (cellsOf T (tp T.size 0 M 0 0 0)) ∧ Below w.heap.size w w' := by
  obtain ⟨i0, hi, hz0, hz1, hz2⟩ := info_parts info28
  obtain ⟨R, hR⟩ : ∃ R, R = tail T.size 0 := ⟨_, rfl⟩
  show Calls Try.prog 9 #[.string T, .slice ad 0 c] w fun e w' => ∃ g cap, e = .returned (.slice (some ⟨g, 0, none⟩) (tail T.size 0).length cap) ∧ w'.ownsRow w.heap.size 28 2 (.slice (some ⟨g, 0, none⟩) (tail T.size 0).length cap) (tail T.size 0).length (cellsOf T (tail T.size 0)) ∧ Below w.heap.size w w'
  rw [← hR]
  have HR : Hid (R = tail T.size 0) := hR
  clear hR
  go_enter Try.func9, Try.ntmps9
  go_wp2_with (at_make; refine wpList_make_own _ rfl _ _ 25 rfl w.heap.size 28 i0 _ 2 Try.underlying25 hi hz0 hz1 .i64 .i64 _ 1 rfl rfl (by omega) (by rw [hz2]; omega) (by unfold maxLen; omega) (Nat.le_refl _) ?_; intro w1 hown hgr)
  have hB1 : Below w.heap.size w w1 := (Below.refl _ _).grown hgr (Nat.le_refl _) (fun k hk => by cases hk)
  clear hgr
  go_loopw [5, 6, 7] (fun v at_ i wr => i = .int .i64 0 ∧ at_ = .int .i64 0 ∧ v = .slice (some ⟨w.heap.size, 0, none⟩) 0 1 ∧ wr.ownsRow w.heap.size 28 2 (.slice (some ⟨w.heap.size, 0, none⟩) 0 1) 0 [] ∧ Below w.heap.size w wr) (fun _ _ i _ => 0)
  case atStart => exact ⟨rfl, rfl, rfl, hown, hB1⟩
  case round =>
    clear hown
    obtain ⟨rfl, rfl, rfl, hown, hbel⟩ := hrel
    have hzz := hbel.size
    by_cases hat : 0 < T.size
    · have HRA : Hid (R = [(0, T.size, false)]) := by have := HR.out; unfold tail at this; rwa [if_pos hat] at this
      go_wp2_with (at_builtin; refine wpList_append_own _ rfl (.tmp 65) (.tmp 70) 25 rfl w.heap.size 28 i0 _ 2 24 Try.underlying25 hi hz0 hz1 hz2 rfl (by decide) _ 0 [] rfl (hown.alloc _) ⟨wr.heap.size, 0, none⟩ 1 1 [.string T, .bool false] rfl rfl (cell_two_new _ _ _ _) (two_oneCell _ _) (by unfold maxLen; omega) (by omega) (by simp; omega) ?_; intro v3 w3 hown3 hgr3 hnil3; have hp3 := push_below hbel hzz hown hgr3; have hnn3 : Hid (v3 ≠ .slice none 0 0) := (fun h => by have := (hnil3.1 h).2; omega); clear hgr3 hnil3)
      go_ret
      obtain ⟨g, cap, hv⟩ := row_shape hown3 hnn3.out
      rw [HRA.out]
      have e1 : cellsOf T [(0, T.size, false)] = [] ++ [.string T, .bool false] := by simp [cellsOf]
      rw [e1]
      exact ⟨g, cap, congrArg Ending.returned hv, hv ▸ hown3, hp3.1⟩
    · have HRA : Hid (R = []) := by have := HR.out; unfold tail at this; rwa [if_neg hat] at this
      go_wp2
      go_ret
      rw [HRA.out]
      exact ⟨_, _, rfl, hown, hbel⟩
end Go.Proofs.Qxb6617215a
