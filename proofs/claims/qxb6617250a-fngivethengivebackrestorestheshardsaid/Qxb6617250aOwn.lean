/-
  ROWS OF THE CALL's OWN: what 'zzNodeB1Clone' makes and 'give' turns.
-/
import Derived.Test.Qxb6617250aGivePlain
import Derived.Test.Qxb6617250aNest
namespace Go.Proofs.Qxb6617250a
open Go.RowKit
set_option linter.unusedVariables false

theorem info26 : (Try.prog.info? 26).map (fun i => (i.zero, i.size, i.bytes)) = some (some (.slice none 0 0), 1, 24) := by kernel_rfl

/-- A row of strings in a block of its own, from B up to C, other than G; or nil. -/
def RowAt (B C : Nat) (w : World) (G : Nat) (v : Value) (R : List ByteArray) : Prop :=
  (v = .slice none 0 0 ∧ R = []) ∨ ∃ g, v = .slice (some ⟨g, 0, none⟩) R.length R.length ∧ B ≤ g ∧ g < C ∧ g ≠ G ∧ Blk w g 9 (sv R)
/-- The block that a row lies in. -/
def blkOf : Value → Option Nat
  | .slice (some a) _ _ => some a.block
  | _ => none
structure ORows (B C : Nat) (w : World) (G : Nat) (vs : List Value) (L : List (List ByteArray)) : Prop where
  lo : B ≤ G
  hi : G < C
  blk : Blk w G 26 vs
  len : vs.length = L.length
  row : ∀ (i : Nat) (R : List ByteArray), L[i]? = some R → ∃ v, vs[i]? = some v ∧ RowAt B C w G v R
  dis : ∀ (i j : Nat) (u v : Value) (g : Nat), vs[i]? = some u → vs[j]? = some v → blkOf u = some g → blkOf v = some g → i = j
def Own (B C : Nat) (w : World) (x : Value) (L : List (List ByteArray)) : Prop :=
  (x = .slice none 0 0 ∧ L = []) ∨ ∃ G vs, x = .slice (some ⟨G, 0, none⟩) L.length L.length ∧ ORows B C w G vs L

theorem sv_at {R : List ByteArray} {j : Nat} {s : ByteArray} (h : R[j]? = some s) : (sv R)[j]? = some (.string s) := by
  rw [sv, List.getElem?_map, h]; rfl
theorem RowAt.sr {B C : Nat} {w : World} {G : Nat} {v : Value} {R : List ByteArray} (h : RowAt B C w G v R) : SR w v R := by
  rcases h with ⟨rfl, rfl⟩ | ⟨g, rfl, h1, h2, h3, h4⟩
  · exact ⟨none, 0, rfl, fun h => absurd h (by simp)⟩
  · exact ⟨_, _, rfl, fun _ => ⟨g, 0, rfl, h4.lt, fun j s hj => by rw [h4.cell]; simpa using sv_at hj⟩⟩
theorem Own.ssr {B C : Nat} {w : World} {x : Value} {L : List (List ByteArray)} (h : Own B C w x L) : SSR w x L := by
  rcases h with ⟨rfl, rfl⟩ | ⟨G, vs, rfl, h⟩
  · exact ⟨none, 0, rfl, fun h => absurd h (by simp)⟩
  · refine ⟨_, _, rfl, fun _ => ⟨G, 0, rfl, h.blk.lt, fun i R hi => ?_⟩⟩
    obtain ⟨v, h1, h2⟩ := h.row i R hi
    exact ⟨v, by rw [h.blk.cell]; simpa using h1, h2.sr⟩

/-! ### ORows from C on: what 'give' leaves alone -/
def SRC (C : Nat) (w : World) (v : Value) (S : List ByteArray) : Prop :=
  ∃ a cap, v = .slice a S.length cap ∧ (0 < S.length → ∃ b off, a = some ⟨b, off, none⟩ ∧ C ≤ b ∧ b < w.heap.size ∧ ∀ j s, S[j]? = some s → w.cell? ⟨b, off + j, none⟩ = some (.string s))
def SSRC (C : Nat) (w : World) (x : Value) (L : List (List ByteArray)) : Prop :=
  ∃ a cap, x = .slice a L.length cap ∧ (0 < L.length → ∃ b off, a = some ⟨b, off, none⟩ ∧ C ≤ b ∧ b < w.heap.size ∧ ∀ i R, L[i]? = some R → ∃ rv, w.cell? ⟨b, off + i, none⟩ = some rv ∧ SRC C w rv R)
/-- The blocks from C on are as they were. -/
def Up (C : Nat) (w w' : World) : Prop := w.heap.size ≤ w'.heap.size ∧ ∀ b, C ≤ b → b < w.heap.size → w'.heap[b]? = w.heap[b]?
theorem Up.cell {C : Nat} {w w' : World} (h : Up C w w') {a : Addr} (h1 : C ≤ a.block) (h2 : a.block < w.heap.size) : w'.cell? a = w.cell? a := by
  unfold World.cell?
  rw [h.2 a.block h1 h2]
theorem Up.of_below {C : Nat} {w w' : World} (h : Below w.heap.size w w') : Up C w w' := ⟨h.size, fun b _ hb => h.block b hb⟩
theorem Up.trans {C : Nat} {w w' w'' : World} (h : Up C w w') (h' : Up C w' w'') : Up C w w'' :=
  ⟨Nat.le_trans h.1 h'.1, fun b h1 h2 => (h'.2 b h1 (Nat.lt_of_lt_of_le h2 h.1)).trans (h.2 b h1 h2)⟩
theorem Up.refl (C : Nat) (w : World) : Up C w w := ⟨Nat.le_refl _, fun _ _ _ => rfl⟩
theorem SRC.sr {C : Nat} {w : World} {v : Value} {S : List ByteArray} (h : SRC C w v S) : SR w v S := by
  obtain ⟨a, cap, h1, h2⟩ := h
  refine ⟨a, cap, h1, fun h0 => ?_⟩
  obtain ⟨b, off, h3, h4, h5, h6⟩ := h2 h0
  exact ⟨b, off, h3, h5, h6⟩
theorem SSRC.ssr {C : Nat} {w : World} {v : Value} {L : List (List ByteArray)} (h : SSRC C w v L) : SSR w v L := by
  obtain ⟨a, cap, h1, h2⟩ := h
  refine ⟨a, cap, h1, fun h0 => ?_⟩
  obtain ⟨b, off, h3, h4, h5, h6⟩ := h2 h0
  refine ⟨b, off, h3, h5, fun i R hi => ?_⟩
  obtain ⟨rv, h7, h8⟩ := h6 i R hi
  exact ⟨rv, h7, h8.sr⟩
theorem SRC.keep {C : Nat} {w w' : World} {v : Value} {S : List ByteArray} (h : SRC C w v S) (hu : Up C w w') : SRC C w' v S := by
  obtain ⟨a, cap, h1, h2⟩ := h
  refine ⟨a, cap, h1, fun h0 => ?_⟩
  obtain ⟨b, off, h3, h4, h5, h6⟩ := h2 h0
  exact ⟨b, off, h3, h4, Nat.lt_of_lt_of_le h5 hu.1, fun j s hj => (hu.cell (by exact h4) (by exact h5)).trans (h6 j s hj)⟩
theorem SSRC.keep {C : Nat} {w w' : World} {v : Value} {L : List (List ByteArray)} (h : SSRC C w v L) (hu : Up C w w') : SSRC C w' v L := by
  obtain ⟨a, cap, h1, h2⟩ := h
  refine ⟨a, cap, h1, fun h0 => ?_⟩
  obtain ⟨b, off, h3, h4, h5, h6⟩ := h2 h0
  refine ⟨b, off, h3, h4, Nat.lt_of_lt_of_le h5 hu.1, fun i R hi => ?_⟩
  obtain ⟨rv, h7, h8⟩ := h6 i R hi
  exact ⟨rv, (hu.cell (by exact h4) (by exact h5)).trans h7, h8.keep hu⟩
theorem RowAt.src {B C : Nat} {w : World} {G : Nat} {v : Value} {R : List ByteArray} (h : RowAt B C w G v R) : SRC B w v R := by
  rcases h with ⟨rfl, rfl⟩ | ⟨g, rfl, h1, h2, h3, h4⟩
  · exact ⟨none, 0, rfl, fun h => absurd h (by simp)⟩
  · exact ⟨_, _, rfl, fun _ => ⟨g, 0, rfl, h1, h4.lt, fun j s hj => by rw [h4.cell]; simpa using sv_at hj⟩⟩
theorem Own.ssrc {B C : Nat} {w : World} {x : Value} {L : List (List ByteArray)} (h : Own B C w x L) : SSRC B w x L := by
  rcases h with ⟨rfl, rfl⟩ | ⟨G, vs, rfl, h⟩
  · exact ⟨none, 0, rfl, fun h => absurd h (by simp)⟩
  · refine ⟨_, _, rfl, fun _ => ⟨G, 0, rfl, h.lo, h.blk.lt, fun i R hi => ?_⟩⟩
    obtain ⟨v, h1, h2⟩ := h.row i R hi
    exact ⟨v, by rw [h.blk.cell]; simpa using h1, h2.src⟩
theorem Row.src {B C : Nat} {w : World} {v : Value} {R : List ByteArray} (h : Row B w v R) (hC : C ≤ B) : SRC C w v R := by
  obtain ⟨g, rfl, h1, h2⟩ := h
  exact ⟨_, _, rfl, fun _ => ⟨g, 0, rfl, Nat.le_trans hC h1, h2.lt, fun j s hj => by rw [h2.cell]; simpa using sv_at hj⟩⟩

/-! ### Own rows stay where nothing below C turns -/
theorem ORows.keep {B C : Nat} {w w' : World} {G : Nat} {vs : List Value} {L : List (List ByteArray)} (h : ORows B C w G vs L) (hb : ∀ b, b < C → w'.heap[b]? = w.heap[b]?) : ORows B C w' G vs L := by
  refine ⟨h.lo, h.hi, (hb G h.hi).trans h.blk, h.len, fun i R hi => ?_, h.dis⟩
  obtain ⟨v, h1, h2⟩ := h.row i R hi
  refine ⟨v, h1, ?_⟩
  rcases h2 with h2 | ⟨g, h2, h3, h4, h5, h6⟩
  · exact .inl h2
  · exact .inr ⟨g, h2, h3, h4, h5, (hb g h4).trans h6⟩
theorem ORows.grow {B C C' : Nat} {w : World} {G : Nat} {vs : List Value} {L : List (List ByteArray)} (h : ORows B C w G vs L) (hC : C ≤ C') : ORows B C' w G vs L := by
  refine ⟨h.lo, Nat.lt_of_lt_of_le h.hi hC, h.blk, h.len, fun i R hi => ?_, h.dis⟩
  obtain ⟨v, h1, h2⟩ := h.row i R hi
  refine ⟨v, h1, ?_⟩
  rcases h2 with h2 | ⟨g, h2, h3, h4, h5, h6⟩
  · exact .inl h2
  · exact .inr ⟨g, h2, h3, Nat.lt_of_lt_of_le h4 hC, h5, h6⟩
theorem Own.keep {B C : Nat} {w w' : World} {x : Value} {L : List (List ByteArray)} (h : Own B C w x L) (hb : ∀ b, b < C → w'.heap[b]? = w.heap[b]?) : Own B C w' x L := by
  rcases h with h | ⟨G, vs, h1, h2⟩
  · exact .inl h
  · exact .inr ⟨G, vs, h1, h2.keep hb⟩
/-- One more row: R, in a block from C on, stored at i. -/
theorem ORows.put {B C : Nat} {w w' : World} {G : Nat} {vs : List Value} {L : List (List ByteArray)} (h : ORows B C w G vs L) (hb : ∀ b, b < C → w'.heap[b]? = w.heap[b]?) (hC : C ≤ w'.heap.size) {g i : Nat} {R : List ByteArray} (hg : C ≤ g) (hR : Blk w' g 9 (sv R)) (hi : i < L.length) :
    ORows B w'.heap.size (w'.setCell ⟨G, i, none⟩ (.slice (some ⟨g, 0, none⟩) R.length R.length)) G (vs.set i (.slice (some ⟨g, 0, none⟩) R.length R.length)) (L.set i R) := by
  have h' := h.keep hb
  have hlo := h.lo
  have hhi := h.hi
  have hlen := h.len
  have hold : ∀ {j : Nat} {u : Value} {k : Nat}, vs[j]? = some u → blkOf u = some k → k < C := fun {j u k} hj hk => by
    have hjl : j < vs.length := (List.getElem?_eq_some_iff.1 hj).1
    obtain ⟨v, h1, h2⟩ := h.row j (L[j]'(by omega)) (List.getElem?_eq_getElem (by omega))
    rw [hj] at h1
    cases h1
    rcases h2 with ⟨rfl, _⟩ | ⟨g', rfl, h3, h4, _⟩
    · cases hk
    · simp only [blkOf, Option.some.injEq] at hk; omega
  refine ⟨hlo, by omega, h'.blk.set i _, by simp [hlen], fun j Q hj => ?_, fun a b u v k ha hb' hu hv => ?_⟩
  · by_cases e : i = j
    · subst e
      rw [List.getElem?_set_self hi] at hj
      cases hj
      exact ⟨_, List.getElem?_set_self (by omega), .inr ⟨g, rfl, by omega, hR.lt, by omega, hR.other (by show g ≠ G; omega) _⟩⟩
    · rw [List.getElem?_set_ne e] at hj
      obtain ⟨v, h1, h2⟩ := h'.row j Q hj
      refine ⟨v, by rw [List.getElem?_set_ne e]; exact h1, ?_⟩
      rcases h2 with h2 | ⟨g', h2, h3, h4, h5, h6⟩
      · exact .inl h2
      · exact .inr ⟨g', h2, h3, by omega, h5, h6.other (by exact h5) _⟩
  · by_cases e1 : i = a
    · by_cases e2 : i = b
      · omega
      · subst e1
        rw [List.getElem?_set_self (by omega)] at ha
        rw [List.getElem?_set_ne e2] at hb'
        cases ha
        have := hold hb' hv
        simp only [blkOf, Option.some.injEq] at hu
        omega
    · rw [List.getElem?_set_ne e1] at ha
      by_cases e2 : i = b
      · subst e2
        rw [List.getElem?_set_self (by omega)] at hb'
        cases hb'
        have := hold ha hu
        simp only [blkOf, Option.some.injEq] at hv
        omega
      · rw [List.getElem?_set_ne e2] at hb'
        exact h.dis a b u v k ha hb' hu hv
/-- A row's own block turns: its strings are R'. -/
theorem ORows.turn {B C : Nat} {w w' : World} {G : Nat} {vs : List Value} {L : List (List ByteArray)} (h : ORows B C w G vs L) {g i : Nat} {R R' : List ByteArray} (hi : L[i]? = some R) (hv : vs[i]? = some (.slice (some ⟨g, 0, none⟩) R.length R.length)) (hl : R'.length = R.length) (hR : Blk w' g 9 (sv R')) (hb : ∀ b, b < C → b ≠ g → w'.heap[b]? = w.heap[b]?) :
    ORows B C w' G vs (L.set i R') := by
  have hil : i < L.length := (List.getElem?_eq_some_iff.1 hi).1
  have hg : B ≤ g ∧ g < C ∧ g ≠ G := by
    obtain ⟨v, h1, h2⟩ := h.row i R hi
    rw [hv] at h1
    cases h1
    rcases h2 with ⟨h2, _⟩ | ⟨g', h2, h3, h4, h5, _⟩
    · cases h2
    · cases h2; exact ⟨h3, h4, h5⟩
  refine ⟨h.lo, h.hi, (hb G h.hi (fun e => hg.2.2 e.symm)).trans h.blk, by simp [h.len], fun j Q hj => ?_, h.dis⟩
  by_cases e : i = j
  · subst e
    rw [List.getElem?_set_self hil] at hj
    cases hj
    exact ⟨_, hv, .inr ⟨g, by rw [hl], hg.1, hg.2.1, hg.2.2, hR⟩⟩
  · rw [List.getElem?_set_ne e] at hj
    obtain ⟨v, h1, h2⟩ := h.row j Q hj
    refine ⟨v, h1, ?_⟩
    rcases h2 with h2 | ⟨g', rfl, h3, h4, h5, h6⟩
    · exact .inl h2
    · refine .inr ⟨g', rfl, h3, h4, h5, (hb g' h4 (fun e' => e ?_)).trans h6⟩
      subst e'
      exact h.dis i j _ _ g' hv h1 rfl rfl
/-- The row's own block, at i. -/
theorem ORows.at {B C : Nat} {w : World} {G : Nat} {vs : List Value} {L : List (List ByteArray)} (h : ORows B C w G vs L) {i : Nat} {R : List ByteArray} (hi : L[i]? = some R) : ∃ v, vs[i]? = some v ∧ w.cell? ⟨G, i, none⟩ = some v ∧ RowAt B C w G v R := by
  obtain ⟨v, h1, h2⟩ := h.row i R hi
  exact ⟨v, h1, by rw [h.blk.cell]; exact h1, h2⟩

/-! ### A clone on its way -/
def part (L : List (List ByteArray)) (k : Nat) : List (List ByteArray) := L.take k ++ List.replicate (L.length - k) []
theorem part_length {L : List (List ByteArray)} {k : Nat} (h : k ≤ L.length) : (part L k).length = L.length := by simp [part]; omega
theorem part_zero (L : List (List ByteArray)) : part L 0 = List.replicate L.length [] := by simp [part]
theorem part_all {L : List (List ByteArray)} {k : Nat} (h : L.length ≤ k) : part L k = L := by
  unfold part
  rw [List.take_of_length_le h, show L.length - k = 0 by omega]
  simp
theorem part_set {L : List (List ByteArray)} {k : Nat} {R : List ByteArray} (h : L[k]? = some R) : (part L k).set k R = part L (k + 1) := by
  have hk : k < L.length := (List.getElem?_eq_some_iff.1 h).1
  unfold part
  rw [List.set_append_right _ _ (by rw [List.length_take]; omega), List.take_add_one, h, show L.length - k = (L.length - (k + 1)) + 1 by omega, List.replicate_succ]
  have : k - (L.take k).length = 0 := by rw [List.length_take]; omega
  rw [this]
  simp
theorem part_nil {L : List (List ByteArray)} {k : Nat} (h : L[k]? = some []) : part L k = part L (k + 1) := by
  rw [← part_set h]
  have hk : k < L.length := (List.getElem?_eq_some_iff.1 h).1
  refine (set_same ?_).symm
  unfold part
  rw [List.getElem?_append_right (by rw [List.length_take]; omega), List.getElem?_replicate]
  simp
  omega
theorem rows_made {B : Nat} {w : World} {n G : Nat} (hB : B ≤ G) (h : Blk w G 26 (List.replicate n (.slice none 0 0))) : ORows B (G + 1) w G (List.replicate n (.slice none 0 0)) (List.replicate n []) := by
  refine ⟨hB, by omega, h, by simp, fun i R hi => ?_, fun i j u v g hu _ hg _ => ?_⟩
  · rw [List.getElem?_replicate] at hi
    by_cases hl : i < n
    · rw [if_pos hl] at hi
      cases hi
      exact ⟨_, by rw [List.getElem?_replicate, if_pos hl], .inl ⟨rfl, rfl⟩⟩
    · rw [if_neg hl] at hi
      cases hi
  · rw [List.getElem?_replicate] at hu
    split at hu
    · cases hu; cases hg
    · cases hu
end Go.Proofs.Qxb6617250a
