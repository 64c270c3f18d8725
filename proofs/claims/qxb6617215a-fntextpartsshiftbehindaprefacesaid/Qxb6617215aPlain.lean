/-
  THE PLAIN MATHEMATICS of textParts: a part is (start, end, filled).
-/
namespace Go.Proofs.Qxb6617215a

abbrev Part := Nat × Nat × Bool

/-- The marks: an even number, in turn. -/
def Turn (len : Nat) (M : Nat → Int) : Prop := len % 2 = 0 ∧ (0 < len → 0 ≤ M 0) ∧ ∀ i, i + 1 < len → M i ≤ M (i + 1)

theorem Turn.nonneg {len : Nat} {M : Nat → Int} (h : Turn len M) : ∀ i, i < len → 0 ≤ M i := by
  intro i
  induction i with
  | zero => intro hi; exact h.2.1 hi
  | succ i ih => intro hi; have := h.2.2 i hi; have := ih (by omega); omega

def tail (n a : Nat) : List Part := if a < n then [(a, n, false)] else []
def gap (a : Nat) (s : Int) : List Part := if (a : Int) < s then [(a, s.toNat, false)] else []
def fin (n : Nat) (e : Int) : Nat := (min e (n : Int)).toNat

def tp (n len : Nat) (M : Nat → Int) : Nat → Nat → Nat → List Part
  | 0, _, a => tail n a
  | f + 1, i, a => if i < len ∧ M i < (n : Int) then gap a (M i) ++ ((M i).toNat, fin n (M (i + 1)), true) :: tp n len M f (i + 2) (fin n (M (i + 1))) else tail n a

theorem tp_go {n len : Nat} {M : Nat → Int} {f i a : Nat} (h1 : i < len) (h2 : M i < (n : Int)) :
    tp n len M (f + 1) i a = gap a (M i) ++ ((M i).toNat, fin n (M (i + 1)), true) :: tp n len M f (i + 2) (fin n (M (i + 1))) := by
  rw [tp, if_pos ⟨h1, h2⟩]
theorem tp_stop {n len : Nat} {M : Nat → Int} {f i a : Nat} (h : ¬ (i < len ∧ M i < (n : Int))) : tp n len M f i a = tail n a := by
  cases f with
  | zero => rfl
  | succ f => rw [tp, if_neg h]

/-- What the first law asks of the parts, read from the left. -/
def Ok (n len : Nat) (M : Nat → Int) : List Part → Nat → Nat → Bool → Prop
  | [], k, off, _ => off = n ∧ (len ≤ k ∨ (n : Int) ≤ M k)
  | (a, b, true) :: r, k, off, _ => a = off ∧ a ≤ b ∧ b ≤ n ∧ k + 1 < len ∧ M k < (n : Int) ∧ M k = (off : Int) ∧ (b : Int) = min (M (k + 1)) (n : Int) ∧ Ok n len M r (k + 2) b false
  | (a, b, false) :: r, k, off, p => a = off ∧ a < b ∧ b ≤ n ∧ p = false ∧ Ok n len M r k b true

theorem ok_tail {n len : Nat} {M : Nat → Int} {k a : Nat} (ha : a ≤ n) (h : ¬ (k < len ∧ M k < (n : Int))) : Ok n len M (tail n a) k a false := by
  unfold tail
  by_cases h1 : a < n
  · rw [if_pos h1]
    exact ⟨rfl, h1, Nat.le_refl _, rfl, rfl, by omega⟩
  · rw [if_neg h1]
    exact ⟨by omega, by omega⟩

theorem ok_tp {n len : Nat} {M : Nat → Int} (hT : Turn len M) : ∀ f k a, len ≤ k + f → k % 2 = 0 → a ≤ n → (k < len → (a : Int) ≤ M k) → Ok n len M (tp n len M f k a) k a false := by
  intro f
  induction f with
  | zero =>
    intro k a h1 _ h3 _
    exact ok_tail h3 (by omega)
  | succ f ih =>
    intro k a h1 h2 h3 h4
    by_cases hc : k < len ∧ M k < (n : Int)
    · rw [tp_go hc.1 hc.2]
      have hk1 : k + 1 < len := by have := hT.1; omega
      have hm := hT.2.2 k hk1
      have h0 := hT.nonneg k hc.1
      have ha := h4 hc.1
      have he : (fin n (M (k + 1)) : Int) = min (M (k + 1)) (n : Int) := by unfold fin; omega
      have hr : Ok n len M (tp n len M f (k + 2) (fin n (M (k + 1)))) (k + 2) (fin n (M (k + 1))) false := by
        refine ih (k + 2) _ (by omega) (by omega) (by omega) (fun hlt => ?_)
        have := hT.2.2 (k + 1) hlt
        show ((fin n (M (k + 1)) : Nat) : Int) ≤ M (k + 1 + 1)
        omega
      unfold gap
      by_cases hg : (a : Int) < M k
      · rw [if_pos hg]
        refine ⟨rfl, by omega, by omega, rfl, ?_⟩
        exact ⟨rfl, by omega, by omega, hk1, hc.2, by omega, he, hr⟩
      · rw [if_neg hg]
        exact ⟨by omega, by omega, by omega, hk1, hc.2, by omega, he, hr⟩
    · rw [tp_stop hc]
      exact ok_tail h3 hc

theorem length_gap (a : Nat) (s : Int) : (gap a s).length ≤ 1 := by unfold gap; split <;> simp
theorem length_tail (n a : Nat) : (tail n a).length ≤ 1 := by unfold tail; split <;> simp
end Go.Proofs.Qxb6617215a
