/-
  SLICES OF SLICES OF STRINGS, read: what the two guards answer.
-/
import Derived.Test.Qxb6617250aStr
namespace Go.Proofs.Qxb6617250a
open Go.RowKit
set_option linter.unusedVariables false

def RetB (e : Ending) (p : Bool → Prop) : Prop := ∃ r, e = .returned (.bool r) ∧ p r
theorem RetB.intro {p : Bool → Prop} {r : Bool} (h : p r) : RetB (.returned (.bool r)) p := ⟨r, rfl, h⟩

/-- The slice value x holds rows that hold the strings L. -/
def SSR (w : World) (x : Value) (L : List (List ByteArray)) : Prop :=
  ∃ a cap, x = .slice a L.length cap ∧ (0 < L.length → ∃ b off, a = some ⟨b, off, none⟩ ∧ b < w.heap.size ∧ ∀ i R, L[i]? = some R → ∃ rv, w.cell? ⟨b, off + i, none⟩ = some rv ∧ SR w rv R)
theorem SSR.keep {w w' : World} {x : Value} {L : List (List ByteArray)} (h : SSR w x L) (hb : Below w.heap.size w w') : SSR w' x L := by
  obtain ⟨a, cap, hx, h⟩ := h
  refine ⟨a, cap, hx, fun h0 => ?_⟩
  obtain ⟨b, off, h1, h2, h3⟩ := h h0
  refine ⟨b, off, h1, Nat.lt_of_lt_of_le h2 hb.size, fun i R hi => ?_⟩
  obtain ⟨rv, h4, h5⟩ := h3 i R hi
  exact ⟨rv, (hb.cell (by exact h2)).trans h4, h5.keep hb⟩
theorem drop_atL {L : List (List ByteArray)} {j : Nat} (h : j < L.length) : ∃ R, L[j]? = some R ∧ L.drop j = R :: L.drop (j + 1) :=
  ⟨L[j], by rw [List.getElem?_eq_getElem h], by rw [List.drop_eq_getElem_cons h]⟩
end Go.Proofs.Qxb6617250a
