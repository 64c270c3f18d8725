/-
  THE SECOND LAW: the parts behind a preface: what its pieces are.
-/
import Derived.Test.Qxb6617215aShare
import Derived.Test.Qxb6617215aShiftPlain
import Derived.Deep.CutBlock
namespace Go.Proofs.Qxb6617215a
open Go.RowKit
set_option linter.unusedVariables false

theorem bytes2_yes (P T : ByteArray) (a : Option Addr) (l c : Nat) (w : World) (h : P.size + T.size + l ≤ 1048576) :
    Calls Try.prog 8 #[.string P, .string T, .slice a l c] w fun e w' => e = .returned (.bool true) ∧ w = w' := by
  go_enter Try.func8, Try.ntmps8
  go_wp2
  go_ret
  exact ⟨rfl, rfl⟩
theorem bytes2_no (P T : ByteArray) (a : Option Addr) (l c : Nat) (w : World) (hp : P.size ≤ maxLen) (h0 : T.size ≤ maxLen) (h1 : l ≤ maxLen) (h : ¬ P.size + T.size + l ≤ 1048576) :
    Calls Try.prog 8 #[.string P, .string T, .slice a l c] w fun e w' => e = .returned (.bool false) ∧ w = w' := by
  unfold maxLen at hp h0 h1
  by_cases q : P.size ≤ 1048576
  · by_cases q0 : T.size ≤ 1048576
    · by_cases q2 : P.size + T.size ≤ 1048576
      · by_cases q1 : l ≤ 1048576
        all_goals
          go_enter Try.func8, Try.ntmps8
          go_wp2
          go_ret
          exact ⟨rfl, rfl⟩
      · go_enter Try.func8, Try.ntmps8
        go_wp2
        go_ret
        exact ⟨rfl, rfl⟩
    · go_enter Try.func8, Try.ntmps8
      go_wp2
      go_ret
      exact ⟨rfl, rfl⟩
  · go_enter Try.func8, Try.ntmps8
    go_wp2
    go_ret
    exact ⟨rfl, rfl⟩

/-- A row of pieces in memory. -/
def PAt (w : World) (g : Nat) (L : List Piece) : Prop := g < w.heap.size ∧ ∀ j u, (cellsP L)[j]? = some u → w.cell? ⟨g, j, none⟩ = some u
theorem PAt.keep {w w' : World} {g : Nat} {L : List Piece} (h : PAt w g L) (hb : Below w.heap.size w w') : PAt w' g L :=
  ⟨Nat.lt_of_lt_of_le h.1 hb.size, fun j u hj => (hb.cell (by exact h.1)).trans (h.2 j u hj)⟩
theorem PAt.get {w : World} {g : Nat} {L : List Piece} (h : PAt w g L) {j : Nat} {s : ByteArray} {f : Bool} (hj : L[j]? = some (s, f)) : w.cell? ⟨g, j * 2, none⟩ = some (.string s) ∧ w.cell? ⟨g, j * 2 + 1, none⟩ = some (.bool f) :=
  ⟨h.2 _ _ (cellsP_get L j s f hj).1, h.2 _ _ (cellsP_get L j s f hj).2⟩
theorem pat_of_owns {w : World} {B g n cap : Nat} {L : List Piece} (h : w.ownsRow B 28 2 (.slice (some ⟨g, 0, none⟩) n cap) n (cellsP L)) : PAt w g L :=
  ⟨(h.lt g rfl).2, fun j u hj => by have := h.cells rfl j u hj; rwa [WideShapes.add_plain, Nat.zero_add] at this⟩

theorem pieces_mine {w : World} {B : Nat} {a : Option Addr} {len : Nat} {M : Nat → Int} (T : ByteArray) (hn : T.size ≤ 131072) (hl : len ≤ 65536) (hT : Turn len M) (h : Mine B w (.slice a len len) len M) :
    Calls Try.prog 7 #[.string T, .slice a len len] w fun e w' => ∃ g cap, e = .returned (.slice (some ⟨g, 0, none⟩) ((tp T.size len M len 0 0).map (piece T)).length cap) ∧ Hid (PAt w' g ((tp T.size len M len 0 0).map (piece T))) ∧ Hid (((tp T.size len M len 0 0).map (piece T)).length ≤ cap) ∧ Below w.heap.size w w' := by
  refine (zzparts_mine T hn hl hT h).mono ?_
  rintro e w' ⟨g, cap, rfl, _, ho, hb⟩
  have ho' := ho.out
  rw [cellsOf_piece] at ho'
  rw [List.length_map]
  refine ⟨g, cap, rfl, pat_of_owns ho', ?_, hb⟩
  rcases ho'.2 with ⟨h1, _⟩ | ⟨g2, cap2, cur, hv, _, _, h3, _⟩
  · cases h1
  · injection hv with e1 e2 e3
    show _ ≤ cap
    omega

def fillsP : List Piece → Nat
  | [] => 0
  | (_, f) :: r => (if f then 1 else 0) + fillsP r
theorem fillsP_map (T : ByteArray) (A : List Part) : fillsP (A.map (piece T)) = fills A := by
  induction A with
  | nil => rfl
  | cons x r ih => obtain ⟨a, b, f⟩ := x; simp only [List.map_cons, piece, fillsP, fills, ih]
theorem drop_atP {R : List Piece} {j : Nat} (h : j < R.length) : ∃ s f, R[j]? = some (s, f) ∧ R.drop j = (s, f) :: R.drop (j + 1) := by
  refine ⟨R[j].1, R[j].2, by rw [List.getElem?_eq_getElem h], ?_⟩
  rw [List.drop_eq_getElem_cons h]
theorem length_tp2 {n len : Nat} {M : Nat → Int} : ∀ f i a, len ≤ i + f → i ≤ len → len % 2 = 0 → i % 2 = 0 → (tp n len M f i a).length ≤ (len - i) + 1 := by
  intro f
  induction f with
  | zero => intro i a _ _ _ _; have := length_tail n a; show (tail n a).length ≤ _; omega
  | succ f ih =>
    intro i a h1 h2 h3 h4
    by_cases h : i < len ∧ M i < (n : Int)
    · rw [tp_go h.1 h.2]
      have := ih (i + 2) (fin n (M (i + 1))) (by omega) (by omega) h3 (by omega)
      have := length_gap a (M i)
      simp
      omega
    · rw [tp_stop h]
      have := length_tail n a
      omega

/-- The whole of what the law needs to know of its three lists. -/
structure Facts (P T : ByteArray) (len : Nat) (M : Nat → Int) (A B : List Piece) (C : Nat) : Prop where
  turn : Turn len M
  moved : Turn len (moved P.size T.size M)
  a : A = (tp T.size len M len 0 0).map (piece T)
  b : B = (tp (P ++ T).size len (Qxb6617215a.moved P.size T.size M) len 0 0).map (piece (P ++ T))
  w : B = want P A
  c : C = cnt T.size len M len 0
  f : C = fillsP A
  al : A.length ≤ len + 1
  bl : B.length ≤ len + 1
  cl : C ≤ len
  sz : ∀ x ∈ A, x.1.size ≤ T.size
theorem facts (P T : ByteArray) {len : Nat} {M : Nat → Int} (hT : Turn len M) : ∃ A B C, Facts P T len M A B C := by
  refine ⟨_, _, cnt T.size len M len 0, hT, moved_turn hT, rfl, rfl, ?_, rfl, ?_, ?_, ?_, cnt_le _ _, ?_⟩
  · rw [app_size]; exact parts_want P T hT
  · rw [fillsP_map, fills_tp hT _ _ _ rfl]
  · rw [List.length_map]; exact Nat.le_trans (length_tp2 len 0 0 (by omega) (by omega) hT.1 rfl) (by omega)
  · rw [List.length_map]; exact Nat.le_trans (length_tp2 len 0 0 (by omega) (by omega) hT.1 rfl) (by omega)
  · intro x hx
    obtain ⟨y, _, rfl⟩ := List.mem_map.1 hx
    unfold piece
    simp only
    rw [ByteArray.size_extract]
    omega
theorem PAt.news {w : World} {g : Nat} {L : List Piece} (h : PAt w g L) : ∀ j u, (cellsP L)[j]? = some u → w.cell? ((⟨g, 0, none⟩ : Addr).add j) = some u := by
  intro j u hj
  rw [WideShapes.add_plain, Nat.zero_add]
  exact h.2 j u hj
theorem PAt.news2 {w : World} {g : Nat} {x : Piece} {L : List Piece} (h : PAt w g (x :: L)) : ∀ j u, (cellsP L)[j]? = some u → w.cell? ((⟨g, 2, none⟩ : Addr).add j) = some u := by
  intro j u hj
  rw [WideShapes.add_plain]
  refine h.2 (2 + j) u ?_
  obtain ⟨s, f⟩ := x
  rw [show 2 + j = j + 2 by omega]
  exact hj
theorem cellsP_one (L : List Piece) : ∀ u ∈ cellsP L, u.oneCell' = true := by
  induction L with
  | nil => intro u hu; cases hu
  | cons x r ih =>
    obtain ⟨s, f⟩ := x
    intro u hu
    simp only [cellsP, List.mem_cons] at hu
    rcases hu with rfl | rfl | hu
    · rfl
    · rfl
    · exact ih u hu
theorem row_final {w : World} {B n : Nat} {v : Value} {xs : List Value} {L : List Piece} (h : w.ownsRow B 28 2 v n xs) (hv : v ≠ .slice none 0 0) (hn : n = L.length) (hx : xs = cellsP L) : ∃ g cap, v = .slice (some ⟨g, 0, none⟩) L.length cap ∧ Hid (PAt w g L) := by
  subst hn hx
  obtain ⟨g, cap, rfl⟩ := row_shape h hv
  exact ⟨g, cap, rfl, pat_of_owns h⟩
theorem want_empty {P : ByteArray} {A : List Piece} (h : P.size = 0) : want P A = A := by unfold want; rw [if_pos h]
theorem want_plain {P : ByteArray} {t : ByteArray} {r : List Piece} (h : ¬ P.size = 0) : want P ((t, false) :: r) = (P ++ t, false) :: r := by unfold want; rw [if_neg h]
theorem want_nil {P : ByteArray} (h : ¬ P.size = 0) : want P [] = [(P, false)] := by unfold want; rw [if_neg h]
theorem want_filled {P : ByteArray} {t : ByteArray} {r : List Piece} (h : ¬ P.size = 0) : want P ((t, true) :: r) = (P, false) :: (t, true) :: r := by unfold want; rw [if_neg h]
theorem empty_yes {P : ByteArray} (h : P.size = 0) : P.toList.isEmpty = true := by
  rw [ByteArray.toList_eq, List.eq_nil_of_length_eq_zero (l := P.data.toList) (by rw [data_len]; exact h)]; rfl
theorem empty_no {P : ByteArray} (h : ¬ P.size = 0) : P.toList.isEmpty = false := by
  rw [ByteArray.toList_eq]
  cases h' : P.data.toList with
  | nil => exact absurd (by rw [← data_len, h']; rfl) h
  | cons x r => rfl
end Go.Proofs.Qxb6617215a
