/-
  MEMORY, PLAINLY: 'Blk w g t xs': block g of the world w is a row of cells xs of element type t, no cell frozen.
-/
import Derived.WalkKit
import Derived.Below
import Derived.OneCell
import Derived.Deep.Draws
import Derived.Laws.CopyOwn
namespace Go.Proofs.Qxb6617250a
open Go.RowKit

def Blk (w : World) (g : Nat) (t : TypeId) (xs : List Value) : Prop := w.heap[g]? = some (.cells xs.toArray t (0, 0))

theorem Blk.lt {w : World} {g : Nat} {t : TypeId} {xs : List Value} (h : Blk w g t xs) : g < w.heap.size := lt_of_block h
theorem Blk.cell {w : World} {g : Nat} {t : TypeId} {xs : List Value} (h : Blk w g t xs) (j : Nat) : w.cell? ⟨g, j, none⟩ = xs[j]? := by
  unfold Blk at h
  simp [World.cell?, h]
theorem Blk.free {w : World} {g : Nat} {t : TypeId} {xs : List Value} (h : Blk w g t xs) (j : Nat) : w.frozen? ⟨g, j, none⟩ = false := by
  unfold Blk at h
  simp [World.frozen?, h]
theorem Blk.set {w : World} {g : Nat} {t : TypeId} {xs : List Value} (h : Blk w g t xs) (j : Nat) (u : Value) : Blk (w.setCell ⟨g, j, none⟩ u) g t (xs.set j u) := by
  have hlt := h.lt
  unfold Blk at h
  have h' : w.heap[g] = .cells xs.toArray t (0, 0) := by simpa [Array.getElem?_eq_getElem hlt] using h
  show (w.heap.modify g _)[g]? = _
  rw [Array.getElem?_eq_getElem (by simpa using hlt), Array.getElem_modify_self, h']
  simp
theorem Blk.other {w : World} {g : Nat} {t : TypeId} {xs : List Value} (h : Blk w g t xs) {a : Addr} (ha : g ≠ a.block) (u : Value) : Blk (w.setCell a u) g t xs := by
  unfold Blk
  rw [Below.heap_setCell _ _ _ _ ha]
  exact h
theorem Blk.alloc {w : World} {g : Nat} {t : TypeId} {xs : List Value} (h : Blk w g t xs) (o : Obj) : Blk (w.alloc o) g t xs := by
  unfold Blk
  rw [Below.heap_alloc _ _ _ h.lt]
  exact h
theorem Blk.drewN {w : World} {g : Nat} {t : TypeId} {xs : List Value} (h : Blk w g t xs) (k : Nat) : Blk (w.drewN k) g t xs := h
theorem Blk.drew {w : World} {g : Nat} {t : TypeId} {xs : List Value} (h : Blk w g t xs) : Blk w.drew g t xs := h
theorem Blk.below {w w' : World} {B g : Nat} {t : TypeId} {xs : List Value} (h : Blk w g t xs) (hb : Below B w w') (hg : g < B) : Blk w' g t xs := by
  unfold Blk
  rw [hb.block g hg]
  exact h
theorem Blk.fresh (w : World) (t : TypeId) (xs : List Value) : Blk (w.alloc (.cells xs.toArray t)) w.heap.size t xs := by
  show (w.heap.push _)[w.heap.size]? = _
  simp
theorem below_drewN' {B : Nat} {w w' : World} (h : Below B w w') (k : Nat) : Below B w (w'.drewN k) := ⟨h.os, h.tape, h.output, h.size, h.block⟩
theorem undrew {B : Nat} {w w' : World} (h : Below B w.drew w') : Below B w w' := ⟨h.os, h.tape, h.output, h.size, h.block⟩
/-- A row made by 'make([]T, n)'. -/
theorem Blk.made {w : World} {base : Nat} {e : TypeId} {size n : Nat} {g : Nat} {cap : Nat} {xs : List Value} (h : w.ownsRow base e size (.slice (some ⟨g, 0, none⟩) n cap) n xs) (hc : cap = n) : Blk w g e xs ∧ xs.length = n * size ∧ base ≤ g := by
  obtain ⟨h1, h2⟩ := h
  rcases h2 with ⟨h2, _⟩ | ⟨g', cap', cur, hv, hg, hh, r1, r2, r3, r4⟩
  · cases h2
  · cases hv
    refine ⟨?_, h1, hg⟩
    subst hc
    have : xs.toArray = cur := by rw [← r4, List.take_of_length_le (by simp [r3])]
    unfold Blk
    rw [this]
    exact hh
/-- 'copy(dst, src)' where dst is a row of one's own, as long as src: the row holds src's cells. -/
theorem wpList_copy_all {P : Program} {w : World} {ops : Array Oper} {rest : List Oper} {o : Oper} {a : Act} {Q : Exit → Act → World → Prop} (hgd : o.guard = none) (d s : Operand) (dT sT : TypeId)
    (ho : o.op = .call { callee := .builtin .copy, args := #[d, s], argTypes := #[dT, sT] }) (elem : TypeId) (hu : P.underlying dT = some (.slice elem)) (hsz : (P.info? elem).map (·.size) = some 1)
    (g n : Nat) (x : Addr) (sCap : Nat) (hd : a.eval d = .slice (some ⟨g, 0, none⟩) n n) (hs : a.eval s = .slice (some x) n sCap)
    (cur : List Value) (t : TypeId) (hg : Blk w g t cur) (hcl : cur.length = n) (X : List Value) (hX : X.length = n)
    (hsrc : ∀ j v, X[j]? = some v → w.cell? (x.add j) = some v) (h1 : ∀ v ∈ X, v.oneCell' = true) (B : Nat) (w0 : World) (hb : Below B w0 w) (hBg : B ≤ g)
    (h : ∀ w', Hid (Blk w' g t X) → Below B w0 w' → wpList P ops Q rest (a.put o.dst (goInt n)) w') : wpList P ops Q (o :: rest) a w := by
  refine wpList_copy_splice hgd d s dT sT ho elem hu hsz _ _ _ _ _ _ hd hs g 0 cur t hg X (by rw [hX]; exact (Nat.min_self n).symm) (fun _ => ⟨rfl, x, rfl, hsrc⟩) (by omega) h1 B w0 hb hBg ?_
  intro w' H hb'
  have e : splice cur 0 X = X := by
    unfold splice
    rw [hX, List.drop_of_length_le (by omega)]
    simp
  have H' := H.out
  rw [e] at H'
  rw [hX]
  exact h w' H' hb'
end Go.Proofs.Qxb6617250a
