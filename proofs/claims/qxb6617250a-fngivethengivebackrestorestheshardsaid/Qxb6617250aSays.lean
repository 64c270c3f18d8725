/-
  What a call of 'give' says, and what it leaves.
-/
import Derived.Test.Qxb6617250aOwn
namespace Go.Proofs.Qxb6617250a
open Go.RowKit
set_option linter.unusedVariables false

/-- A call of 'give' on rows of one's own that hold L: it answers b, they hold L'. -/
def Gvn (B C : Nat) (w w' : World) (d e : ByteArray) (x : Value) (L L' : List (List ByteArray)) (b : Bool) : Prop :=
  Own B C w' x L' ∧ Below B w w' ∧ Up C w w' ∧ ((b = true ∧ Gave d e L L') ∨ (b = false ∧ L' = L ∧ ∀ R ∈ L, el d e R = false))
def Gives (B C : Nat) (w w' : World) (d e : ByteArray) (x : Value) (L : List (List ByteArray)) (r : Ending) : Prop := RetB r (fun b => ∃ L', Gvn B C w w' d e x L L' b)

theorem Own.shape {B C : Nat} {w : World} {x : Value} {L : List (List ByteArray)} (h : Own B C w x L) : ∃ a, x = .slice a L.length L.length := by
  rcases h with ⟨rfl, rfl⟩ | ⟨G, vs, rfl, _⟩
  · exact ⟨none, rfl⟩
  · exact ⟨_, rfl⟩
theorem SSR.at {w : World} {a : Option Addr} {n cap : Nat} {L : List (List ByteArray)} (h : SSR w (.slice a n cap) L) {k : Nat} {R : List ByteArray} (hk : L[k]? = some R) : ∃ b off ra rcap, a = some ⟨b, off, none⟩ ∧ b < w.heap.size ∧ w.cell? ⟨b, off + k, none⟩ = some (.slice ra R.length rcap) ∧ SR w (.slice ra R.length rcap) R := by
  obtain ⟨a', cap', h1, h2⟩ := h
  cases h1
  obtain ⟨b, off, h3, h4, h5⟩ := h2 (Nat.lt_of_le_of_lt (Nat.zero_le _) (List.getElem?_eq_some_iff.1 hk).1)
  obtain ⟨rv, h6, h7⟩ := h5 k R hk
  have h8 := h7
  obtain ⟨ra, rcap, rfl, _⟩ := h8
  exact ⟨b, off, ra, rcap, h3, h4, h6, h7⟩
theorem SSRC.at {C : Nat} {w : World} {a : Option Addr} {n cap : Nat} {L : List (List ByteArray)} (h : SSRC C w (.slice a n cap) L) {k : Nat} {R : List ByteArray} (hk : L[k]? = some R) : ∃ b off ra rcap, a = some ⟨b, off, none⟩ ∧ b < w.heap.size ∧ w.cell? ⟨b, off + k, none⟩ = some (.slice ra R.length rcap) ∧ SRC C w (.slice ra R.length rcap) R := by
  obtain ⟨a', cap', h1, h2⟩ := h
  cases h1
  obtain ⟨b, off, h3, h3', h4, h5⟩ := h2 (Nat.lt_of_le_of_lt (Nat.zero_le _) (List.getElem?_eq_some_iff.1 hk).1)
  obtain ⟨rv, h6, h7⟩ := h5 k R hk
  have h8 := h7
  obtain ⟨ra, rcap, rfl, _⟩ := h8
  exact ⟨b, off, ra, rcap, h3, h4, h6, h7⟩
theorem at_of_lt {L : List (List ByteArray)} {k : Nat} (h : k < L.length) : ∃ R, L[k]? = some R := ⟨L[k], List.getElem?_eq_getElem h⟩

theorem SRC.put {C : Nat} {w : World} {v : Value} {S : List ByteArray} {G i : Nat} {u : Value} (h : SRC C w v S) {vs : List Value} (hv1 : Blk w G 26 vs) (hv2 : ∀ x ∈ vs, ∀ s, x ≠ .string s) : SRC C (w.setCell ⟨G, i, none⟩ u) v S := by
  obtain ⟨a, cap, h1, h2⟩ := h
  refine ⟨a, cap, h1, fun h0 => ?_⟩
  obtain ⟨b, off, h3, h4, h5, h6⟩ := h2 h0
  have hne : b ≠ G := by
    rintro rfl
    have h7 := h6 0 S[0] (List.getElem?_eq_getElem h0)
    rw [hv1.cell] at h7
    exact hv2 _ (List.mem_of_getElem? h7) _ rfl
  refine ⟨b, off, h3, h4, by simpa using h5, fun j s hj => ?_⟩
  rw [← h6 j s hj]
  unfold World.cell?
  rw [Below.heap_setCell _ _ _ _ (by exact hne)]
/-- The wanted shards on their way: k are there. -/
def WantAt (C : Nat) (w : World) (G : Nat) (d e : ByteArray) (L : List (List ByteArray)) (k : Nat) : Prop :=
  ∃ vs : List Value, Blk w G 26 vs ∧ vs.length = L.length ∧ (∀ x ∈ vs, ∀ s, x ≠ .string s) ∧ ∀ (i : Nat) (R : List ByteArray), i < k → L[i]? = some R → ∃ v, vs[i]? = some v ∧ SRC C w v (wn d e R)
theorem WantAt.zero {C : Nat} {w : World} {G : Nat} {d e : ByteArray} {L : List (List ByteArray)} (h : Blk w G 26 (List.replicate L.length (.slice none 0 0))) : WantAt C w G d e L 0 :=
  ⟨_, h, by simp, fun x hx s => (by rw [List.eq_of_mem_replicate hx]; intro h; cases h), fun i R hi => absurd hi (by omega)⟩
theorem WantAt.old {C : Nat} {w : World} {G : Nat} {d e : ByteArray} {L : List (List ByteArray)} {k : Nat} (h : WantAt C w G d e L k) (hk : k < L.length) : ∃ v, w.cell? ⟨G, k, none⟩ = some v ∧ w.frozen? ⟨G, k, none⟩ = false := by
  obtain ⟨vs, h1, h2, _⟩ := h
  exact ⟨vs[k], by rw [h1.cell]; exact List.getElem?_eq_getElem (by omega), h1.free k⟩
theorem WantAt.keep {C : Nat} {w w' : World} {G : Nat} {d e : ByteArray} {L : List (List ByteArray)} {k : Nat} (h : WantAt C w G d e L k) (hb : Below w.heap.size w w') : WantAt C w' G d e L k := by
  obtain ⟨vs, h1, h2, h2', h3⟩ := h
  refine ⟨vs, h1.below hb h1.lt, h2, h2', fun i R hi hR => ?_⟩
  obtain ⟨v, h4, h5⟩ := h3 i R hi hR
  exact ⟨v, h4, h5.keep (Up.of_below hb)⟩
theorem WantAt.put {C : Nat} {w : World} {G : Nat} {d e : ByteArray} {L : List (List ByteArray)} {k : Nat} {R : List ByteArray} {a : Option Addr} {n c : Nat} (h : WantAt C w G d e L k) (hk : L[k]? = some R) (hv : SRC C w (.slice a n c) (wn d e R)) : WantAt C (w.setCell ⟨G, k, none⟩ (.slice a n c)) G d e L (k + 1) := by
  obtain ⟨vs, h1, h2, h2', h3⟩ := h
  have hkl : k < L.length := (List.getElem?_eq_some_iff.1 hk).1
  refine ⟨_, h1.set k _, by simpa using h2, fun x hx s => ?_, fun i Q hi hQ => ?_⟩
  · rcases List.mem_or_eq_of_mem_set hx with hx | hx
    · exact h2' x hx s
    · rw [hx]; intro h; cases h
  · by_cases e1 : k = i
    · subst e1
      rw [hk] at hQ
      cases hQ
      exact ⟨_, List.getElem?_set_self (by omega), hv.put h1 h2'⟩
    · obtain ⟨v, h4, h5⟩ := h3 i Q (by omega) hQ
      exact ⟨v, by rw [List.getElem?_set_ne e1]; exact h4, h5.put h1 h2'⟩
theorem WantAt.done {C : Nat} {w : World} {G : Nat} {d e : ByteArray} {L : List (List ByteArray)} {k : Nat} (h : WantAt C w G d e L k) (hk : L.length ≤ k) (hC : C ≤ G) : SSRC C w (.slice (some ⟨G, 0, none⟩) L.length L.length) (L.map (wn d e)) := by
  obtain ⟨vs, h1, h2, h2', h3⟩ := h
  refine ⟨_, L.length, by simp, fun _ => ⟨G, 0, rfl, hC, h1.lt, fun i R hi => ?_⟩⟩
  rw [List.getElem?_map] at hi
  obtain ⟨Q, h4, h5⟩ := Option.map_eq_some_iff.1 hi
  obtain ⟨v, h6, h7⟩ := h3 i Q (Nat.lt_of_lt_of_le (List.getElem?_eq_some_iff.1 h4).1 hk) h4
  subst h5
  exact ⟨v, by rw [h1.cell]; simpa using h6, h7⟩
/-- A shard given: its row, stored. -/
theorem want_given {C : Nat} {w w4 : World} {G : Nat} {d e : ByteArray} {L : List (List ByteArray)} {k : Nat} {R R4 : List ByteArray} {u4 : Value} (h : WantAt C w G d e L k) (hk : L[k]? = some R) (hel : el d e R = true) (hR : R4.Perm (er d R ++ [e]) ∧ SortedS R4 ∧ Row w.heap.size w4 u4 R4) (hb : Below w.heap.size w w4) (hC : C ≤ w.heap.size) :
    ∃ a n c v0, u4 = .slice a n c ∧ w4.cell? ⟨G, k, none⟩ = some v0 ∧ w4.frozen? ⟨G, k, none⟩ = false ∧ Hid (WantAt C (w4.setCell ⟨G, k, none⟩ (.slice a n c)) G d e L (k + 1)) := by
  have h' := h.keep hb
  obtain ⟨v0, h1, h2⟩ := h'.old (List.getElem?_eq_some_iff.1 hk).1
  have h3 := hR.2.2.src hC
  obtain ⟨g, h4, _, _⟩ := hR.2.2
  subst h4
  refine ⟨_, _, _, v0, rfl, h1, h2, h'.put hk ?_⟩
  rw [wn_el hel]
  rw [show giv d e R = R4 from (srt_eq hR.1 hR.2.1).symm]
  exact h3
end Go.Proofs.Qxb6617250a
