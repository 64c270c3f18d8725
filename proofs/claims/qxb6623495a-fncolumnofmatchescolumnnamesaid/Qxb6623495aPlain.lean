/-
  THE PLAIN MATHEMATICS: column names in bijective base 26.
-/
namespace Go.Proofs.Qxb6623495a

def U (f : Nat → Int) (i : Nat) : Prop := 65 ≤ f i ∧ f i ≤ 90
def D (f : Nat → Int) (i : Nat) : Prop := 48 ≤ f i ∧ f i ≤ 57
def colv (f : Nat → Int) : Nat → Int
  | 0 => 0
  | k + 1 => colv f k * 26 + (f k - 65) + 1
/-- The reference opens with l capital letters and a digit. -/
def Hit (f : Nat → Int) (n l : Nat) : Prop := 1 ≤ l ∧ l ≤ 3 ∧ l < n ∧ (∀ j, j < l → U f j) ∧ D f l

theorem colv_succ (f : Nat → Int) (k : Nat) : colv f (k + 1) = colv f k * 26 + (f k - 65) + 1 := rfl
theorem colv_bd (f : Nat → Int) : ∀ k, k ≤ 3 → (∀ j, j < k → U f j) → 0 ≤ colv f k ∧ colv f k ≤ 18278 ∧ (0 < k → 0 < colv f k) ∧ (k ≤ 2 → colv f k ≤ 702) ∧ (k ≤ 1 → colv f k ≤ 26) ∧ (k = 0 → colv f k = 0) := by
  intro k hk hU
  match k, hk, hU with
  | 0, _, _ => simp [colv]
  | 1, _, hU =>
    have h0 := hU 0 (by omega)
    unfold U at h0
    simp only [colv]
    omega
  | 2, _, hU =>
    have h0 := hU 0 (by omega)
    have h1 := hU 1 (by omega)
    unfold U at h0 h1
    simp only [colv]
    omega
  | 3, _, hU =>
    have h0 := hU 0 (by omega)
    have h1 := hU 1 (by omega)
    have h2 := hU 2 (by omega)
    unfold U at h0 h1 h2
    simp only [colv]
    omega
theorem colv_mod (f : Nat → Int) (k : Nat) (h : U f k) : (colv f (k + 1) - 1) % 26 = f k - 65 := by
  unfold U at h
  simp only [colv]
  omega
theorem colv_div (f : Nat → Int) (k : Nat) (h : U f k) : (colv f (k + 1) - 1) / 26 = colv f k := by
  unfold U at h
  simp only [colv]
  omega
theorem no_hit_end {f : Nat → Int} {n : Nat} (hU : ∀ j, j < n → U f j) : ¬ ∃ l, Hit f n l := by
  rintro ⟨l, _, _, h3, _, h5⟩
  have := hU l h3
  unfold U at this; unfold D at h5
  omega
theorem no_hit_at {f : Nat → Int} {n k : Nat} (hU : ∀ j, j < k → U f j) (h1 : ¬ (U f k ∧ k < 3)) (h2 : ¬ (D f k ∧ 0 < k)) : ¬ ∃ l, Hit f n l := by
  rintro ⟨l, q1, q2, q3, q4, q5⟩
  rcases Nat.lt_trichotomy l k with h | h | h
  · have := hU l h
    unfold U at this; unfold D at q5
    omega
  · subst h; exact h2 ⟨q5, by omega⟩
  · exact h1 ⟨q4 k h, by omega⟩
end Go.Proofs.Qxb6623495a
