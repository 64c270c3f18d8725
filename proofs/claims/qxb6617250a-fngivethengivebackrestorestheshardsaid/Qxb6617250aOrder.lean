/-
  THE ORDER OF STRINGS: by their bytes; sorted permutations are one.
-/
import Derived.Test.Qxb6617250aStr
import Derived.Test.Qxb6617250aMerge
namespace Go.Proofs.Qxb6617250a

/-- The model's order on strings is that of the lists of their bytes. -/
theorem less_eq : ∀ (x y : List UInt8), Op.bytesLess x y = decide (x < y) := by
  intro x
  induction x with
  | nil => intro y; cases y <;> simp [Op.bytesLess]
  | cons a x ih =>
    intro y
    cases y with
    | nil => simp [Op.bytesLess]
    | cons b y =>
      rw [Op.bytesLess, ih y]
      simp only [List.cons_lt_cons_iff]
      by_cases h1 : a < b <;> by_cases h2 : a = b <;> by_cases h3 : x < y <;> simp [h1, h2, h3]
def leS (x y : ByteArray) : Bool := decide (x.data.toList ≤ y.data.toList)

theorem leS_walk (a b : ByteArray) : (Op.bytesLess a.toList b.toList || a.toList == b.toList) = leS a b := by
  unfold leS
  rw [ByteArray.toList_eq, ByteArray.toList_eq, less_eq]
  rw [Bool.eq_iff_iff]
  simp only [Bool.or_eq_true, decide_eq_true_eq, beq_iff_eq]
  constructor
  · rintro (h | h)
    · exact List.le_of_lt h
    · rw [h]; exact List.le_refl _
  · intro h
    rcases List.le_iff_lt_or_eq.1 h with h | h
    · exact .inl h
    · exact .inr h
theorem leS_trans (a b c : ByteArray) (h1 : leS a b = true) (h2 : leS b c = true) : leS a c = true := by
  unfold leS at *
  rw [decide_eq_true_eq] at *
  exact List.le_trans h1 h2
theorem leS_total (a b : ByteArray) : (leS a b || leS b a) = true := by
  unfold leS
  rw [Bool.or_eq_true, decide_eq_true_eq, decide_eq_true_eq]
  exact List.le_total _ _
theorem leS_antisymm (a b : ByteArray) (h1 : leS a b = true) (h2 : leS b a = true) : a = b := by
  unfold leS at *
  rw [decide_eq_true_eq] at *
  exact WideShapes.bytes_inj (List.le_antisymm h1 h2)

def SortedS (l : List ByteArray) : Prop := l.Pairwise (fun a b => leS a b = true)
theorem sorted_unique {l m : List ByteArray} (hp : l.Perm m) (hl : SortedS l) (hm : SortedS m) : l = m :=
  List.Perm.eq_of_pairwise (fun a b _ _ h1 h2 => leS_antisymm a b h1 h2) hl hm hp
end Go.Proofs.Qxb6617250a
