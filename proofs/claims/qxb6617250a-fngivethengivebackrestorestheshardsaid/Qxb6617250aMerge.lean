/-
  THE PLAIN MATHEMATICS of a bottom-up merge sort: one pass over chunks of width w.
-/
namespace Go.Proofs.Qxb6617250a
section
variable {α : Type} (le : α → α → Bool)

def pass (w : Nat) : Nat → List α → List α
  | 0, l => l
  | f + 1, l => if l.length = 0 then [] else List.merge (l.take w) ((l.drop w).take w) le ++ pass w f (l.drop (w + w))

theorem pass_nil (w f : Nat) : pass le w f [] = [] := by cases f <;> rfl
theorem pass_step {w f : Nat} {l : List α} (h : l.length ≠ 0) : pass le w (f + 1) l = List.merge (l.take w) ((l.drop w).take w) le ++ pass le w f (l.drop (w + w)) := by
  rw [pass, if_neg h]
theorem split_two (w : Nat) (l : List α) : l.take w ++ ((l.drop w).take w ++ l.drop (w + w)) = l := by
  have h1 : (l.drop w).take w ++ l.drop (w + w) = l.drop w := by
    rw [← List.drop_drop]; exact List.take_append_drop w (l.drop w)
  rw [h1, List.take_append_drop]
theorem pass_perm {w : Nat} : ∀ (f : Nat) (l : List α), (pass le w f l).Perm l := by
  intro f
  induction f with
  | zero => intro l; exact List.Perm.refl _
  | succ f ih =>
    intro l
    by_cases h : l.length = 0
    · have : l = [] := List.eq_nil_of_length_eq_zero h
      subst this
      rw [pass_nil]
    · rw [pass_step le h]
      have h1 := List.merge_perm_append (le := le) (xs := l.take w) (ys := (l.drop w).take w)
      have h2 := (h1.append (ih (l.drop (w + w))))
      rw [List.append_assoc, split_two] at h2
      exact h2
theorem pass_fuel {w : Nat} (hw : 0 < w) : ∀ (f g : Nat) (l : List α), l.length ≤ f → l.length ≤ g → pass le w f l = pass le w g l := by
  intro f
  induction f with
  | zero =>
    intro g l h1 _
    have : l = [] := List.eq_nil_of_length_eq_zero (by omega)
    subst this
    rw [pass_nil, pass_nil]
  | succ f ih =>
    intro g l h1 h2
    by_cases h : l.length = 0
    · have : l = [] := List.eq_nil_of_length_eq_zero h
      subst this
      rw [pass_nil, pass_nil]
    · obtain ⟨g', rfl⟩ : ∃ g', g = g' + 1 := ⟨g - 1, by omega⟩
      rw [pass_step le h, pass_step le h, ih g' (l.drop (w + w)) (by rw [List.length_drop]; omega) (by rw [List.length_drop]; omega)]

/-- Every chunk of width w is in order. -/
def Ch (w : Nat) (l : List α) : Prop := ∀ k, ((l.drop (k * w)).take w).Pairwise (fun a b => le a b = true)

theorem ch_one (l : List α) : Ch le 1 l := by
  intro k
  cases h : l.drop (k * 1) with
  | nil => simp
  | cons x r => simp
theorem ch_drop {w : Nat} {l : List α} (h : Ch le w l) (m : Nat) : Ch le w (l.drop (m * w)) := by
  intro k
  rw [List.drop_drop, ← Nat.add_mul]
  exact h (m + k)
theorem ch_whole {w : Nat} {l : List α} (h : Ch le w l) (hl : l.length ≤ w) : l.Pairwise (fun a b => le a b = true) := by
  have := h 0
  rw [Nat.zero_mul, List.drop_zero, List.take_of_length_le hl] at this
  exact this

theorem merge_length (xs ys : List α) : (List.merge xs ys le).length = xs.length + ys.length := by
  have := (List.merge_perm_append (le := le) (xs := xs) (ys := ys)).length_eq
  rw [List.length_append] at this
  exact this

theorem pass_ch (htr : ∀ a b c, le a b = true → le b c = true → le a c = true) (hto : ∀ a b, (le a b || le b a) = true) {w : Nat} (hw : 0 < w) :
    ∀ (k f : Nat) (l : List α), l.length ≤ f → Ch le w l → (((pass le w f l).drop (k * (w + w))).take (w + w)).Pairwise (fun a b => le a b = true) := by
  intro k
  induction k with
  | zero =>
    intro f l hf hc
    by_cases h : l.length = 0
    · have : l = [] := List.eq_nil_of_length_eq_zero h
      subst this
      rw [pass_nil]; simp
    · obtain ⟨f', rfl⟩ : ∃ f', f = f' + 1 := ⟨f - 1, by omega⟩
      rw [pass_step le h, Nat.zero_mul, List.drop_zero]
      have hm := List.pairwise_merge (le := le) htr hto (l.take w) ((l.drop w).take w) (by have := hc 0; simpa using this) (by have := hc 1; simpa using this)
      by_cases hl : l.length ≤ w + w
      · have hd : l.drop (w + w) = [] := List.drop_of_length_le hl
        rw [hd, pass_nil, List.append_nil]
        exact hm.sublist (List.take_sublist _ _)
      · rw [List.take_append_of_le_length (by rw [merge_length, List.length_take, List.length_take, List.length_drop]; omega)]
        exact hm.sublist (List.take_sublist _ _)
  | succ k ih =>
    intro f l hf hc
    by_cases h : l.length = 0
    · have : l = [] := List.eq_nil_of_length_eq_zero h
      subst this
      rw [pass_nil]; simp
    · obtain ⟨f', rfl⟩ : ∃ f', f = f' + 1 := ⟨f - 1, by omega⟩
      rw [pass_step le h]
      by_cases hl : l.length ≤ w + w
      · have hd : l.drop (w + w) = [] := List.drop_of_length_le hl
        rw [hd, pass_nil, List.append_nil, List.drop_of_length_le]
        · simp
        · rw [merge_length, List.length_take, List.length_take, List.length_drop, Nat.add_mul]; omega
      · have hlen : (List.merge (l.take w) ((l.drop w).take w) le).length = w + w := by rw [merge_length, List.length_take, List.length_take, List.length_drop]; omega
        rw [show (k + 1) * (w + w) = (List.merge (l.take w) ((l.drop w).take w) le).length + k * (w + w) by rw [hlen, Nat.add_mul]; omega, List.drop_append]
        rw [show List.drop ((List.merge (l.take w) ((l.drop w).take w) le).length + k * (w + w)) (List.merge (l.take w) ((l.drop w).take w) le) = [] from List.drop_of_length_le (by omega), List.nil_append]
        rw [show (List.merge (l.take w) ((l.drop w).take w) le).length + k * (w + w) - (List.merge (l.take w) ((l.drop w).take w) le).length = k * (w + w) by omega]
        refine ih f' (l.drop (w + w)) (by rw [List.length_drop]; omega) ?_
        have := ch_drop le hc 2
        rwa [show 2 * w = w + w by omega] at this
end
end Go.Proofs.Qxb6617250a
