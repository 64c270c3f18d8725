/-
  SMALL LAWS for the walk of the merge sort: segments, rows of strings.
-/
import Derived.Test.Qxb6617250aOrder
namespace Go.Proofs.Qxb6617250a
open Go.RowKit

abbrev sv (l : List ByteArray) : List Value := l.map Value.string
def seg (A : List ByteArray) (i m : Nat) : List ByteArray := (A.take m).drop i
theorem seg_end {A : List ByteArray} {i m : Nat} (h : m ≤ i) : seg A i m = [] := by
  unfold seg; rw [List.drop_of_length_le]; rw [List.length_take]; omega
theorem seg_cons {A : List ByteArray} {i m : Nat} {s : ByteArray} (h : i < m) (hs : A[i]? = some s) : seg A i m = s :: seg A (i + 1) m := by
  unfold seg
  have hi : i < A.length := by
    rcases Nat.lt_or_ge i A.length with h' | h'
    · exact h'
    · rw [List.getElem?_eq_none h'] at hs; cases hs
  have hl : i < (A.take m).length := by rw [List.length_take]; omega
  rw [List.drop_eq_getElem_cons hl]
  congr 1
  rw [List.getElem?_eq_getElem hi] at hs
  injection hs with hs
  rw [← hs, List.getElem_take]
theorem seg_length {A : List ByteArray} {i m : Nat} (h : m ≤ A.length) : (seg A i m).length = m - i := by
  unfold seg; rw [List.length_drop, List.length_take]; omega

/-- What a pass writes from place lo on. -/
def mg (A : List ByteArray) (lo mid hi : Nat) : List ByteArray := List.merge (seg A lo mid) (seg A mid hi) leS
theorem mg_length {A : List ByteArray} {lo mid hi : Nat} (h1 : lo ≤ mid) (h2 : mid ≤ hi) (h3 : hi ≤ A.length) : (mg A lo mid hi).length = hi - lo := by
  unfold mg; rw [merge_length, seg_length (by omega), seg_length h3]; omega
theorem pass_mg {A : List ByteArray} {W n lo mid hi : Nat} (hW : 0 < W) (hn : A.length = n) (hlo : lo < n) (hmid : mid = min (lo + W) n) (hhi : hi = min (lo + (W + W)) n) :
    pass leS W n (A.drop lo) = mg A lo mid hi ++ pass leS W n (A.drop (lo + (W + W))) := by
  obtain ⟨f, rfl⟩ : ∃ f, n = f + 1 := ⟨n - 1, by omega⟩
  have hne : (A.drop lo).length ≠ 0 := by rw [List.length_drop]; omega
  rw [pass_step leS hne, List.drop_drop, List.drop_drop]
  rw [pass_fuel leS hW f (f + 1) (A.drop (lo + (W + W))) (by rw [List.length_drop]; omega) (by rw [List.length_drop]; omega)]
  congr 1
  unfold mg seg
  subst hmid hhi
  congr 1
  · rw [List.drop_take]
    by_cases h : lo + W ≤ f + 1
    · rw [show min (lo + W) (f + 1) - lo = W by omega]
    · rw [List.take_of_length_le (l := A.drop lo) (by rw [List.length_drop]; omega), List.take_of_length_le (by rw [List.length_drop]; omega)]
  · rw [List.drop_take]
    by_cases h : lo + W ≤ f + 1
    · rw [show min (lo + W) (f + 1) = lo + W by omega]
      by_cases h' : lo + (W + W) ≤ f + 1
      · rw [show min (lo + (W + W)) (f + 1) - (lo + W) = W by omega]
      · rw [List.take_of_length_le (l := A.drop (lo + W)) (by rw [List.length_drop]; omega), List.take_of_length_le (by rw [List.length_drop]; omega)]
    · rw [List.drop_of_length_le (l := A) (i := lo + W) (by omega), List.drop_of_length_le (l := A) (i := min (lo + W) (f + 1)) (by omega)]
      simp
theorem merge_left {x : ByteArray} {xs : List ByteArray} : List.merge (x :: xs) [] leS = x :: List.merge xs [] leS := by
  simp
theorem merge_le {x y : ByteArray} {xs ys : List ByteArray} (h : leS x y = true) : List.merge (x :: xs) (y :: ys) leS = x :: List.merge xs (y :: ys) leS := by
  rw [List.cons_merge_cons, if_pos h]
theorem merge_gt {x y : ByteArray} {xs ys : List ByteArray} (h : leS x y = false) : List.merge (x :: xs) (y :: ys) leS = y :: List.merge (x :: xs) ys leS := by
  rw [List.cons_merge_cons, if_neg (by rw [h]; decide)]
theorem merge_right {y : ByteArray} {ys : List ByteArray} : List.merge [] (y :: ys) leS = y :: List.merge [] ys leS := by
  simp

theorem mstep1 {A : List ByteArray} {i mid j hi : Nat} {s : ByteArray} (h : i < mid) (hs : A[i]? = some s) (hj : hi ≤ j) : List.merge (seg A i mid) (seg A j hi) leS = s :: List.merge (seg A (i + 1) mid) (seg A j hi) leS := by
  rw [seg_end hj, seg_cons h hs, merge_left]
theorem mstep2 {A : List ByteArray} {i mid j hi : Nat} {s t : ByteArray} (h : i < mid) (hs : A[i]? = some s) (hj : j < hi) (ht : A[j]? = some t) (hle : leS s t = true) : List.merge (seg A i mid) (seg A j hi) leS = s :: List.merge (seg A (i + 1) mid) (seg A j hi) leS := by
  rw [seg_cons hj ht, seg_cons h hs, merge_le hle]
theorem mstep3 {A : List ByteArray} {i mid j hi : Nat} {s t : ByteArray} (h : i < mid) (hs : A[i]? = some s) (hj : j < hi) (ht : A[j]? = some t) (hle : leS s t = false) : List.merge (seg A i mid) (seg A j hi) leS = t :: List.merge (seg A i mid) (seg A (j + 1) hi) leS := by
  rw [seg_cons hj ht, seg_cons h hs, merge_gt hle]
theorem mstep4 {A : List ByteArray} {i mid j hi : Nat} {t : ByteArray} (h : mid ≤ i) (hj : j < hi) (ht : A[j]? = some t) : List.merge (seg A i mid) (seg A j hi) leS = t :: List.merge (seg A i mid) (seg A (j + 1) hi) leS := by
  rw [seg_cons hj ht, seg_end h, merge_right]

/-- A store into the first place behind what has been laid. -/
theorem set_next (O : List ByteArray) (ys : List Value) (s : ByteArray) (h : 0 < ys.length) : (sv O ++ ys).set O.length (.string s) = sv (O ++ [s]) ++ ys.drop 1 := by
  cases ys with
  | nil => simp at h
  | cons y r =>
    rw [List.set_append_right _ _ (by simp)]
    simp
theorem blk_next {w : World} {g k : Nat} {O : List ByteArray} {ys : List Value} {s : ByteArray} (h : Blk w g 9 (sv O ++ ys)) (hk : O.length = k) (hy : 0 < ys.length) : Blk (w.setCell ⟨g, k, none⟩ (.string s)) g 9 (sv (O ++ [s]) ++ ys.drop 1) := by
  have := h.set k (.string s)
  rw [← hk, set_next O ys s hy, hk] at this
  exact this
theorem blk_old {w : World} {g k : Nat} {O : List ByteArray} {ys : List Value} (h : Blk w g 9 (sv O ++ ys)) (hk : O.length = k) (hy : 0 < ys.length) : ∃ u, w.cell? ⟨g, k, none⟩ = some u := by
  rw [h.cell k, List.getElem?_append_right (by simp; omega)]
  exact ⟨_, List.getElem?_eq_getElem (by simp; omega)⟩
theorem blk_get {w : World} {g i : Nat} {A : List ByteArray} {s : ByteArray} (h : Blk w g 9 (sv A)) (hs : A[i]? = some s) : w.cell? ⟨g, i, none⟩ = some (.string s) := by
  rw [h.cell i, List.getElem?_map, hs]; rfl
end Go.Proofs.Qxb6617250a
