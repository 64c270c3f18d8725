/-
  THE ROW's FIRST ARGUMENT, OPENED: a [][]string holds rows of strings.
-/
import Derived.Test.Qxb6617250aNest
import Derived.Deep.Slices
import Derived.Deep.Strs
namespace Go.Proofs.Qxb6617250a
open Go.ChangeShapes Go.WideShapes Go.RowKit

theorem spot_none {w : World} {a : Addr} {v : Value} (h : w.cell? a = some v) : a = ⟨a.block, a.off, none⟩ := by
  rcases a with ⟨b, o, s⟩
  cases s with
  | none => rfl
  | some s =>
    unfold World.cell? at h
    simp only at h
    split at h
    · simp at h
    · cases h
theorem add_zero (a : Addr) : a.add 0 = a := by simp [Addr.add]
section
variable {H : Type} {enc : TypeId × Value → H} {W : World}
theorem sr_of_trod {fuel : Nat} {v : Value} {x : DataW H × List MemPlace} (h : DataW.trod enc Try.prog W 0 (fun _ => true) true fuel 26 [v] = some x) : ∃ S, SR W v S := by
  rcases Go.Deep.open_strs Try.underlying26 Try.underlying9 (by kernel_rfl) h with ⟨hcs, _⟩ | ⟨a, len, cap, m, Sx, hcs, _, hl, _, hm, _, hx⟩
  · simp at hcs
    subst hcs
    exact ⟨[], none, 0, rfl, fun h0 => absurd h0 (by simp)⟩
  · simp at hcs hm
    subst hcs
    subst hm
    refine ⟨(List.range len).map Sx, some a, m, by simp, fun h0 => ?_⟩
    simp at h0
    have h1 := (hx 0 (by omega)).1
    rw [add_zero] at h1
    refine ⟨a.block, a.off, by rw [← spot_none h1], World.block_lt_of_cell? W a h1, fun j s hj => ?_⟩
    rw [List.getElem?_map] at hj
    obtain ⟨i, h2, h3⟩ := Option.map_eq_some_iff.1 hj
    obtain ⟨h4, h5⟩ := List.getElem?_eq_some_iff.1 h2
    simp at h4 h5
    subst h5
    subst h3
    have h6 := (hx j (by omega)).1
    rw [spot_none h1, add_plain] at h6
    exact h6
theorem ssr_of_trod {v : Value} {d : DataW H} {p : List MemPlace} (h : DataW.Trod enc Try.prog W 0 (fun _ => true) true 22 v d p) (hv : v.cells = #[v]) : ∃ L, SSR W v L := by
  obtain ⟨fuel, h⟩ := h
  rw [hv] at h
  rcases Go.Deep.open_slice1 Try.underlying22 (by kernel_rfl) h with ⟨hcs, _⟩ | ⟨a, len, cap, m, n, V, D, Pl, hcs, _, hl, _, hm, _, hx⟩
  · simp at hcs
    subst hcs
    exact ⟨[], none, 0, rfl, fun h0 => absurd h0 (by simp)⟩
  · simp at hcs hm
    subst hcs
    subst hm
    obtain ⟨Sx, hS⟩ := Go.Deep.choose_lt (α := List ByteArray) (n := m) (p := fun i S => SR W (V i) S) (fun i hi => sr_of_trod (hx i hi).2)
    refine ⟨(List.range len).map Sx, some a, m, by simp, fun h0 => ?_⟩
    simp at h0
    have h1 := (hx 0 (by omega)).1
    rw [add_zero] at h1
    refine ⟨a.block, a.off, by rw [← spot_none h1], World.block_lt_of_cell? W a h1, fun j R hj => ?_⟩
    rw [List.getElem?_map] at hj
    obtain ⟨i, h2, h3⟩ := Option.map_eq_some_iff.1 hj
    obtain ⟨h4, h5⟩ := List.getElem?_eq_some_iff.1 h2
    simp at h4 h5
    subst h5
    subst h3
    have h6 := (hx j (by omega)).1
    rw [spot_none h1, add_plain] at h6
    exact ⟨V j, h6, hS j (by omega)⟩
end
end Go.Proofs.Qxb6617250a
