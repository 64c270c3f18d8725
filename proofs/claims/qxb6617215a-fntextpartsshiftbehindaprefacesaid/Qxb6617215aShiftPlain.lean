/-
  THE PLAIN MATHEMATICS of the second law: the parts of a text behind a preface.
-/
import Derived.Test.Qxb6617215aTp
import Derived.WideShapes
import Derived.Lib.Strings
namespace Go.Proofs.Qxb6617215a

/-- A part's own text and its mark. -/
abbrev Piece := ByteArray × Bool
def piece (T : ByteArray) : Part → Piece := fun x => (T.extract x.1 x.2.1, x.2.2)
def cellsP : List Piece → List Value
  | [] => []
  | (s, f) :: r => .string s :: .bool f :: cellsP r
theorem cellsOf_piece (T : ByteArray) (A : List Part) : cellsOf T A = cellsP (A.map (piece T)) := by
  induction A with
  | nil => rfl
  | cons x r ih => obtain ⟨a, b, f⟩ := x; simp [cellsOf, cellsP, piece, ih]
theorem cellsP_append (A B : List Piece) : cellsP (A ++ B) = cellsP A ++ cellsP B := by
  induction A with
  | nil => rfl
  | cons x r ih => obtain ⟨s, f⟩ := x; simp [cellsP, ih]
theorem cellsP_get : ∀ (A : List Piece) (j : Nat) (s : ByteArray) (f : Bool), A[j]? = some (s, f) → (cellsP A)[j * 2]? = some (.string s) ∧ (cellsP A)[j * 2 + 1]? = some (.bool f) := by
  intro A
  induction A with
  | nil => intro j s f h; simp at h
  | cons x r ih =>
    intro j s f h
    obtain ⟨s', f'⟩ := x
    cases j with
    | zero => simp at h; obtain ⟨rfl, rfl⟩ := h; simp [cellsP]
    | succ j =>
      have := ih j s f (by simpa using h)
      rw [show (j + 1) * 2 = j * 2 + 2 by omega]
      exact this
theorem length_cellsP (A : List Piece) : (cellsP A).length = A.length * 2 := by
  induction A with
  | nil => rfl
  | cons x r ih => obtain ⟨s, f⟩ := x; simp [cellsP, ih]; omega

/-! ### Cuts of a text behind a preface -/
theorem data_app (P T : ByteArray) : (P ++ T).data.toList = P.data.toList ++ T.data.toList := by simp
theorem data_len (P : ByteArray) : P.data.toList.length = P.size := by rw [Array.length_toList]; rfl
theorem cut_behind (P T : ByteArray) (a b : Nat) : (P ++ T).extract (P.size + a) (P.size + b) = T.extract a b := by
  apply WideShapes.bytes_inj
  rw [Lib.extract_data, Lib.extract_data, data_app, List.drop_append, data_len, List.drop_of_length_le (by rw [data_len]; omega)]
  rw [show P.size + a - P.size = a by omega, show P.size + b - (P.size + a) = b - a by omega, List.nil_append]
theorem cut_across (P T : ByteArray) (m : Nat) : (P ++ T).extract 0 (P.size + m) = P ++ T.extract 0 m := by
  apply WideShapes.bytes_inj
  rw [Lib.extract_data, data_app, data_app, Lib.extract_data, List.drop_zero, List.drop_zero, List.take_append, data_len, List.take_of_length_le (by rw [data_len]; omega)]
  rw [show P.size + m - 0 - P.size = m - 0 by omega]
theorem cut_front (P T : ByteArray) : (P ++ T).extract 0 P.size = P := by
  apply WideShapes.bytes_inj
  rw [Lib.extract_data, data_app, List.drop_zero, List.take_append, data_len, List.take_of_length_le (by rw [data_len]; omega)]
  rw [show P.size - 0 - P.size = 0 by omega]
  simp
theorem app_size (P T : ByteArray) : (P ++ T).size = P.size + T.size := by
  rw [← data_len, data_app, List.length_append, data_len, data_len]
theorem cut_all (T : ByteArray) : T.extract 0 T.size = T := by
  apply WideShapes.bytes_inj
  rw [Lib.extract_data, List.drop_zero, List.take_of_length_le (by rw [data_len]; omega)]
theorem app_empty (P T : ByteArray) (h : P.size = 0) : P ++ T = T := by
  apply WideShapes.bytes_inj
  rw [data_app]
  have : P.data.toList = [] := List.eq_nil_of_length_eq_zero (by rw [data_len]; exact h)
  rw [this, List.nil_append]

/-! ### The marks moved -/
def moved (p n : Nat) (M : Nat → Int) : Nat → Int := fun i => if (n : Int) ≤ M i then (p : Int) + (n : Int) else (p : Int) + M i
def shift (p : Nat) : Part → Part := fun x => (p + x.1, p + x.2.1, x.2.2)

theorem moved_turn {p n len : Nat} {M : Nat → Int} (h : Turn len M) : Turn len (moved p n M) := by
  refine ⟨h.1, fun h0 => ?_, fun i hi => ?_⟩
  · have := h.2.1 h0
    unfold moved
    split <;> omega
  · have := h.2.2 i hi
    unfold moved
    split <;> split <;> omega

theorem moved_lt {p n : Nat} {M : Nat → Int} {i : Nat} : moved p n M i < ((p + n : Nat) : Int) ↔ M i < (n : Int) := by
  unfold moved
  split <;> omega
theorem moved_in {p n : Nat} {M : Nat → Int} {i : Nat} (h : M i < (n : Int)) : moved p n M i = (p : Int) + M i := by
  unfold moved
  rw [if_neg (by omega)]
theorem moved_fin {p n : Nat} {M : Nat → Int} {i : Nat} (h : 0 ≤ M i) : fin (p + n) (moved p n M i) = p + fin n (M i) := by
  unfold fin moved
  split <;> omega

theorem tail_shift (p n a : Nat) : tail (p + n) (p + a) = (tail n a).map (shift p) := by
  unfold tail
  by_cases h : a < n
  · rw [if_pos h, if_pos (by omega)]; rfl
  · rw [if_neg h, if_neg (by omega)]; rfl
theorem gap_shift (p a : Nat) (s : Int) (h : 0 ≤ s) : gap (p + a) ((p : Int) + s) = (gap a s).map (shift p) := by
  unfold gap
  by_cases hs : (a : Int) < s
  · rw [if_pos hs, if_pos (by omega)]
    simp [shift]
    omega
  · rw [if_neg hs, if_neg (by omega)]; rfl

theorem tp_shift {p n len : Nat} {M : Nat → Int} (hT : Turn len M) : ∀ f i a, i % 2 = 0 → tp (p + n) len (moved p n M) f i (p + a) = (tp n len M f i a).map (shift p) := by
  intro f
  induction f with
  | zero => intro i a _; exact tail_shift p n a
  | succ f ih =>
    intro i a he
    by_cases h : i < len ∧ M i < (n : Int)
    · have h0 := hT.nonneg i h.1
      have h1 := hT.nonneg (i + 1) (by have := hT.1; omega)
      rw [tp_go h.1 h.2, tp_go h.1 (moved_lt.2 h.2), moved_in h.2, moved_fin h1, gap_shift p a _ h0, ih (i + 2) _ (by omega)]
      simp [shift]
      omega
    · rw [tp_stop h, tp_stop (by rw [moved_lt]; exact h)]
      exact tail_shift p n a

/-- What the second law wants. -/
def want (P : ByteArray) (A : List Piece) : List Piece :=
  if P.size = 0 then A else match A with
    | (t, false) :: r => (P ++ t, false) :: r
    | _ => (P, false) :: A

theorem piece_shift (P T : ByteArray) (x : Part) : piece (P ++ T) (shift P.size x) = piece T x := by
  unfold piece shift
  simp only
  rw [cut_behind]
theorem map_piece_shift (P T : ByteArray) (A : List Part) : (A.map (shift P.size)).map (piece (P ++ T)) = A.map (piece T) := by
  rw [List.map_map]
  apply List.map_congr_left
  intro x _
  exact piece_shift P T x

theorem parts_want (P T : ByteArray) {len : Nat} {M : Nat → Int} (hT : Turn len M) :
    (tp (P.size + T.size) len (moved P.size T.size M) len 0 0).map (piece (P ++ T)) = want P ((tp T.size len M len 0 0).map (piece T)) := by
  unfold want
  by_cases hp : P.size = 0
  · rw [if_pos hp]
    have h1 := tp_shift (p := P.size) (n := T.size) hT len 0 0 rfl
    rw [show P.size + 0 = 0 by omega] at h1
    rw [h1, map_piece_shift]
  · rw [if_neg hp]
    by_cases h : 0 < len ∧ M 0 < (T.size : Int)
    · obtain ⟨f, rfl⟩ : ∃ f, len = f + 1 := ⟨len - 1, by omega⟩
      have h0 := hT.nonneg 0 h.1
      have h1 := hT.nonneg 1 (by have := hT.1; omega)
      have hr := tp_shift (p := P.size) (n := T.size) hT f 2 (fin T.size (M 1)) rfl
      have e1 : tp (P.size + T.size) (f + 1) (moved P.size T.size M) (f + 1) 0 0 = gap 0 (moved P.size T.size M 0) ++ ((moved P.size T.size M 0).toNat, fin (P.size + T.size) (moved P.size T.size M 1), true) :: tp (P.size + T.size) (f + 1) (moved P.size T.size M) f 2 (fin (P.size + T.size) (moved P.size T.size M 1)) := tp_go h.1 (moved_lt.2 h.2)
      have e2 : tp T.size (f + 1) M (f + 1) 0 0 = gap 0 (M 0) ++ ((M 0).toNat, fin T.size (M 1), true) :: tp T.size (f + 1) M f 2 (fin T.size (M 1)) := tp_go h.1 h.2
      rw [e1, e2, moved_in h.2, moved_fin h1, hr]
      have eg : gap 0 ((P.size : Int) + M 0) = [(0, P.size + (M 0).toNat, false)] := by
        unfold gap
        rw [if_pos (by omega)]
        congr 2
        simp
        omega
      have et : ((P.size : Int) + M 0).toNat = P.size + (M 0).toNat := by omega
      rw [eg, et]
      have em : piece (P ++ T) (P.size + (M 0).toNat, P.size + fin T.size (M 1), true) = piece T ((M 0).toNat, fin T.size (M 1), true) := piece_shift P T ((M 0).toNat, fin T.size (M 1), true)
      by_cases hm : 0 < M 0
      · have eg2 : gap 0 (M 0) = [(0, (M 0).toNat, false)] := by unfold gap; rw [if_pos (by omega)]
        rw [eg2]
        simp only [List.cons_append, List.nil_append, List.map_cons, em, map_piece_shift]
        simp only [piece, cut_across]
      · have eg2 : gap 0 (M 0) = [] := by unfold gap; rw [if_neg (by omega)]
        have ez : (M 0).toNat = 0 := by omega
        rw [eg2]
        simp only [List.cons_append, List.nil_append, List.map_cons, em, map_piece_shift]
        simp only [piece, ez, Nat.add_zero, cut_front]
    · rw [tp_stop h, tp_stop (by rw [moved_lt]; exact h)]
      unfold tail
      rw [if_pos (by omega)]
      by_cases hn : 0 < T.size
      · rw [if_pos hn]
        simp only [List.map_cons, List.map_nil, piece, cut_across, cut_all]
      · rw [if_neg hn]
        simp only [List.map_cons, List.map_nil, piece]
        rw [show P.size + T.size = P.size by omega, cut_front]

/-! ### The filled parts are as many as the marks inside the text -/
def cnt (n len : Nat) (M : Nat → Int) : Nat → Nat → Nat
  | 0, _ => 0
  | f + 1, i => if i + 1 < len then (if M i < (n : Int) then 1 else 0) + cnt n len M f (i + 2) else 0
theorem cnt_succ (n len : Nat) (M : Nat → Int) (f i : Nat) : cnt n len M (f + 1) i = if i + 1 < len then (if M i < (n : Int) then 1 else 0) + cnt n len M f (i + 2) else 0 := rfl
def fills : List Part → Nat
  | [] => 0
  | (_, _, f) :: r => (if f then 1 else 0) + fills r
theorem fills_append (A B : List Part) : fills (A ++ B) = fills A + fills B := by
  induction A with
  | nil => simp [fills]
  | cons x r ih => obtain ⟨a, b, f⟩ := x; simp [fills, ih]; omega
theorem fills_gap (a : Nat) (s : Int) : fills (gap a s) = 0 := by unfold gap; split <;> rfl
theorem fills_tail (n a : Nat) : fills (tail n a) = 0 := by unfold tail; split <;> rfl
theorem Turn.mono {len : Nat} {M : Nat → Int} (h : Turn len M) : ∀ d i, i + d < len → M i ≤ M (i + d) := by
  intro d
  induction d with
  | zero => intro i _; exact Int.le_refl _
  | succ d ih =>
    intro i hi
    have h1 := ih i (by omega)
    have h2 := h.2.2 (i + d) (by omega)
    rw [show i + (d + 1) = i + d + 1 by omega]
    omega
theorem cnt_zero {n len : Nat} {M : Nat → Int} (h : ∀ i, i < len → (n : Int) ≤ M i) : ∀ f i, cnt n len M f i = 0 := by
  intro f
  induction f with
  | zero => intro i; rfl
  | succ f ih =>
    intro i
    unfold cnt
    by_cases hi : i + 1 < len
    · have := h i (by omega)
      rw [if_pos hi, if_neg (by omega), ih]
    · rw [if_neg hi]
theorem cnt_stop {n len : Nat} {M : Nat → Int} (hT : Turn len M) : ∀ f i, ¬ (i < len ∧ M i < (n : Int)) → cnt n len M f i = 0 := by
  intro f
  induction f with
  | zero => intro i _; rfl
  | succ f ih =>
    intro i h
    unfold cnt
    by_cases hi : i + 1 < len
    · rw [if_pos hi, if_neg (by omega)]
      rw [ih (i + 2)]
      intro h2
      have := hT.mono 2 i h2.1
      omega
    · rw [if_neg hi]
theorem fills_tp {n len : Nat} {M : Nat → Int} (hT : Turn len M) : ∀ f i a, i % 2 = 0 → fills (tp n len M f i a) = cnt n len M f i := by
  intro f
  induction f with
  | zero => intro i a _; exact fills_tail n a
  | succ f ih =>
    intro i a he
    by_cases h : i < len ∧ M i < (n : Int)
    · have hi1 : i + 1 < len := by have := hT.1; omega
      rw [tp_go h.1 h.2, fills_append, fills_gap]
      simp only [fills]
      rw [ih (i + 2) _ (by omega)]
      rw [cnt_succ, if_pos hi1, if_pos h.2]
      simp
    · rw [tp_stop h, fills_tail, cnt_stop hT _ _ h]
theorem cnt_le {n len : Nat} {M : Nat → Int} : ∀ f i, cnt n len M f i ≤ f := by
  intro f
  induction f with
  | zero => intro i; exact Nat.le_refl _
  | succ f ih =>
    intro i
    unfold cnt
    have := ih (i + 2)
    split <;> (try split) <;> omega
theorem fills_le : ∀ A : List Part, fills A ≤ A.length := by
  intro A
  induction A with
  | nil => exact Nat.le_refl _
  | cons x r ih => obtain ⟨a, b, f⟩ := x; simp only [fills, List.length_cons]; split <;> omega
end Go.Proofs.Qxb6617215a
