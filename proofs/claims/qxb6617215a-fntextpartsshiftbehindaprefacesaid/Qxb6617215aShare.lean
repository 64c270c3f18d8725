/-
  WHAT BOTH LAWS SHARE: the argument read, copied, cut into parts.
-/
import Derived.Test.Qxb6617215aTurn
import Derived.Deep.DeepCutAuto
namespace Go.Proofs.Qxb6617215a
open Go.RowKit
set_option linter.unusedVariables false
def IsRow (k : IntKind) (w : World) (a : Option Addr) (len cap : Nat) (zs : List Int) : Prop :=
  (a = none ∧ len = 0 ∧ cap = 0 ∧ zs = []) ∨
  ∃ x, a = some x ∧ len ≤ cap ∧ cap ≤ maxLen ∧ zs.length = cap ∧ (∀ i, i < zs.length → w.cell? (x.add i) = some (.int k (zs.getD i 0))) ∧ ∀ n ∈ zs, (Lit.int k n).wf = true

theorem World.lt_of_cell {w : World} {p : Addr} {v : Value} (h : w.cell? p = some v) : p.block < w.heap.size := by
  unfold World.cell? at h
  rcases Nat.lt_or_ge p.block w.heap.size with h' | h'
  · exact h'
  · rw [Array.getElem?_eq_none h'] at h; cases h

theorem IsRow.len_le {k : IntKind} {w : World} {a : Option Addr} {len cap : Nat} {zs : List Int} (h : IsRow k w a len cap zs) : len ≤ maxLen := by
  rcases h with ⟨_, rfl, _⟩ | ⟨x, _, h1, h2, _⟩
  · unfold maxLen; omega
  · omega

theorem info3 : (Try.prog.info? 3).map (fun i => (i.zero, i.size, i.bytes)) = some (some (.int .i64 0), 1, 8) := by kernel_rfl

def Mine (B : Nat) (w : World) (v : Value) (n : Nat) (F : Nat → Int) : Prop :=
  ∃ a, v = .slice a n n ∧ (0 < n → ∃ g, a = some ⟨g, 0, none⟩ ∧ B ≤ g ∧ g < w.heap.size ∧ ∀ i, i < n → w.cell? ⟨g, i, none⟩ = some (.int .i64 (F i)))

theorem Mine.keep {B : Nat} {w w' : World} {v : Value} {n : Nat} {F : Nat → Int} (h : Mine B w v n F) (hb : Below w.heap.size w w') : Mine B w' v n F := by
  obtain ⟨a, hv, h⟩ := h
  refine ⟨a, hv, fun hn => ?_⟩
  obtain ⟨g, h1, h2, h3, h4⟩ := h hn
  exact ⟨g, h1, h2, Nat.lt_of_lt_of_le h3 hb.size, fun i hi => (hb.cell (by exact h3)).trans (h4 i hi)⟩

theorem mine_of_blk {B : Nat} {w : World} {g : Nat} {n : Nat} {zs : List Int} (hB : B ≤ g) (hz : n ≤ zs.length) (h : Blk w g 3 ((zs.take n).map (Value.int .i64))) :
    Mine B w (.slice (some ⟨g, 0, none⟩) n n) n (fun i => zs.getD i 0) := by
  refine ⟨_, rfl, fun hn => ⟨g, rfl, hB, h.lt, fun i hi => ?_⟩⟩
  rw [h.cell]
  simp [hi, List.getElem?_eq_getElem (show i < zs.length by omega)]
theorem src_cells {w w5 : World} {x : Addr} {zs : List Int} {n : Nat} (hn : n ≤ zs.length) (h4 : ∀ i, i < zs.length → w.cell? (x.add i) = some (Value.int .i64 (zs.getD i 0))) (hb : Below w.heap.size w w5) :
    ∀ j v, ((zs.take n).map (Value.int .i64))[j]? = some v → w5.cell? (x.add j) = some v := by
  intro j v hj
  have hl : j < ((zs.take n).map (Value.int .i64)).length := by
    rcases Nat.lt_or_ge j ((zs.take n).map (Value.int .i64)).length with h | h
    · exact h
    · rw [List.getElem?_eq_none h] at hj; cases hj
  have hl' : j < n := by simp at hl; omega
  have hc := h4 j (by omega)
  have hv : v = .int .i64 (zs.getD j 0) := by
    rw [List.getElem?_eq_getElem hl] at hj
    injection hj with hj
    rw [← hj]
    simp [List.getElem?_eq_getElem (show j < zs.length by omega)]
  rw [hv, ← hc]
  refine hb.cell ?_
  have := World.lt_of_cell hc
  exact this

/-- Marks that are in turn: the call says so. -/
theorem turn_yes {w : World} {a : Option Addr} {len cap : Nat} {zs : List Int} (h : IsRow .i64 w a len cap zs) (hl : len ≤ 65536) (hT : Turn len (fun i => zs.getD i 0)) :
    Calls Try.prog 6 #[.slice a len cap] w fun e w' => e = .returned (.bool true) ∧ Below w.heap.size w w' := by
  by_cases h0 : len = 0
  · subst h0
    refine (turn_none a cap (fun i => zs.getD i 0) w).mono ?_
    rintro e w' ⟨rfl, rfl⟩
    exact ⟨rfl, Below.refl _ _⟩
  · rcases h with ⟨_, h, _⟩ | ⟨x, rfl, h1, h2, h3, h4, h5⟩
    · exact absurd h h0
    · obtain ⟨b, off, spot⟩ := x
      have hspot : spot = none := by simpa [Addr.add] using World.cell?_spot (h4 0 (by omega))
      subst hspot
      refine (turn_any b off len cap (fun i => zs.getD i 0) w hl (fun i hi => by rw [← WideShapes.add_plain]; exact h4 i (by omega))).mono ?_
      rintro e w' ⟨⟨r, rfl, hr⟩, hb⟩
      rw [hr.2 hT]
      exact ⟨rfl, hb⟩
theorem turn_no {w : World} {a : Option Addr} {len cap : Nat} {zs : List Int} (h : IsRow .i64 w a len cap zs) (hl : len ≤ 65536) (hT : ¬ Turn len (fun i => zs.getD i 0)) :
    Calls Try.prog 6 #[.slice a len cap] w fun e w' => e = .returned (.bool false) ∧ Below w.heap.size w w' := by
  by_cases h0 : len = 0
  · subst h0
    exact absurd ⟨rfl, fun h => absurd h (by omega), fun i h => absurd h (by omega)⟩ hT
  · rcases h with ⟨_, h, _⟩ | ⟨x, rfl, h1, h2, h3, h4, h5⟩
    · exact absurd h h0
    · obtain ⟨b, off, spot⟩ := x
      have hspot : spot = none := by simpa [Addr.add] using World.cell?_spot (h4 0 (by omega))
      subst hspot
      refine (turn_any b off len cap (fun i => zs.getD i 0) w hl (fun i hi => by rw [← WideShapes.add_plain]; exact h4 i (by omega))).mono ?_
      rintro e w' ⟨⟨r, rfl, hr⟩, hb⟩
      cases r
      · exact ⟨rfl, hb⟩
      · exact absurd (hr.1 rfl) hT

/-- The parts in memory. -/
def Laid (w : World) (B g : Nat) (T : ByteArray) (R : List Part) : Prop := B ≤ g ∧ g < w.heap.size ∧ ∀ j a b f, R[j]? = some (a, b, f) → w.cell? ⟨g, j * 2, none⟩ = some (.string (T.extract a b)) ∧ w.cell? ⟨g, j * 2 + 1, none⟩ = some (.bool f)
theorem Laid.keep {w w' : World} {B g : Nat} {T : ByteArray} {R : List Part} (h : Laid w B g T R) (hb : Below w.heap.size w w') : Laid w' B g T R :=
  ⟨h.1, Nat.lt_of_lt_of_le h.2.1 hb.size, fun j a b f hj => ⟨(hb.cell (by exact h.2.1)).trans (h.2.2 j a b f hj).1, (hb.cell (by exact h.2.1)).trans (h.2.2 j a b f hj).2⟩⟩
theorem laid_of_owns {w : World} {B g cap : Nat} {T : ByteArray} {R : List Part} (h : w.ownsRow B 28 2 (.slice (some ⟨g, 0, none⟩) R.length cap) R.length (cellsOf T R)) : Laid w B g T R := by
  have hlt := h.lt g rfl
  refine ⟨hlt.1, hlt.2, fun j a b f hj => ?_⟩
  have hjl : j < R.length := by
    rcases Nat.lt_or_ge j R.length with h' | h'
    · exact h'
    · rw [List.getElem?_eq_none h'] at hj; cases hj
  obtain ⟨q1, q2⟩ := cellsOf_get T R j a b f hj
  exact ⟨(h.cellAt (j * 2) (by omega)).trans q1, (h.cellAt (j * 2 + 1) (by omega)).trans q2⟩

theorem parts_mine {w : World} {B : Nat} {a : Option Addr} {len : Nat} {M : Nat → Int} (T : ByteArray) (hn : T.size ≤ 131072) (hl : len ≤ 65536) (hT : Turn len M) (h : Mine B w (.slice a len len) len M) :
    Calls Try.prog 9 #[.string T, .slice a len len] w fun e w' => ∃ g cap, e = .returned (.slice (some ⟨g, 0, none⟩) (tp T.size len M len 0 0).length cap) ∧ Hid (Laid w' w.heap.size g T (tp T.size len M len 0 0)) ∧ Hid (w'.ownsRow w.heap.size 28 2 (.slice (some ⟨g, 0, none⟩) (tp T.size len M len 0 0).length cap) (tp T.size len M len 0 0).length (cellsOf T (tp T.size len M len 0 0))) ∧ Below w.heap.size w w' := by
  by_cases h0 : len = 0
  · subst h0
    refine (textParts_none T a 0 M w hn).mono ?_
    rintro e w' ⟨g, cap, rfl, ho, hb⟩
    exact ⟨g, cap, rfl, laid_of_owns ho, ho, hb⟩
  · obtain ⟨a', ha, h'⟩ := h
    injection ha with ha
    subst ha
    obtain ⟨g, rfl, _, hg, hc⟩ := h' (by omega)
    refine (textParts_any T g 0 len len M w hn hl hT hg (fun i hi => by rw [Nat.zero_add]; exact hc i hi)).mono ?_
    rintro e w' ⟨g, cap, rfl, ho, hb⟩
    exact ⟨g, cap, rfl, laid_of_owns ho, ho, hb⟩
theorem zzparts_mine {w : World} {B : Nat} {a : Option Addr} {len : Nat} {M : Nat → Int} (T : ByteArray) (hn : T.size ≤ 131072) (hl : len ≤ 65536) (hT : Turn len M) (h : Mine B w (.slice a len len) len M) :
    Calls Try.prog 7 #[.string T, .slice a len len] w fun e w' => ∃ g cap, e = .returned (.slice (some ⟨g, 0, none⟩) (tp T.size len M len 0 0).length cap) ∧ Hid (Laid w' w.heap.size g T (tp T.size len M len 0 0)) ∧ Hid (w'.ownsRow w.heap.size 28 2 (.slice (some ⟨g, 0, none⟩) (tp T.size len M len 0 0).length cap) (tp T.size len M len 0 0).length (cellsOf T (tp T.size len M len 0 0))) ∧ Below w.heap.size w w' := by
  have H := parts_mine T hn hl hT h
  generalize tp T.size len M len 0 0 = R at H
  have HH : Hid _ := H
  clear H h
  go_enter Try.func7, Try.ntmps7
  go_wp2_with fail
  refine Calls.mono HH.out ?_
  rintro e w' ⟨g, cap, rfl, h1, h2, h3⟩
  go_wp2
  go_ret
  exact ⟨g, cap, rfl, h1, h2, h3⟩
end Go.Proofs.Qxb6617215a
