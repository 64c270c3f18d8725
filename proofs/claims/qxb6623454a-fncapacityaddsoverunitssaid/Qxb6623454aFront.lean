/-
  THE LAW: what stands ahead of the loop; small lemmas.
-/
import Derived.Test.Qxb6623454aZZ
import Derived.Deep.DeepCutAuto
import Derived.Deep.RegionWith
import Derived.WalkSpells
namespace Go.Proofs.Qxb6623454a
open Go.RowKit
set_option linter.unusedVariables false
def IsRow (k : IntKind) (w : World) (a : Option Addr) (len cap : Nat) (zs : List Int) : Prop :=
  (a = none ∧ len = 0 ∧ cap = 0 ∧ zs = []) ∨
  ∃ x, a = some x ∧ len ≤ cap ∧ cap ≤ maxLen ∧ zs.length = cap ∧ (∀ i, i < zs.length → w.cell? (x.add i) = some (.int k (zs.getD i 0))) ∧ ∀ n ∈ zs, (Lit.int k n).wf = true

theorem World.lt_of_cell {w : World} {p : Addr} {v : Value} (h : w.cell? p = some v) : p.block < w.heap.size := by
  unfold World.cell? at h
  rcases Nat.lt_or_ge p.block w.heap.size with h' | h'
  · exact h'
  · rw [Array.getElem?_eq_none h'] at h; cases h

theorem IsRow.len_le {k : IntKind} {w : World} {a : Option Addr} {len cap : Nat} {zs : List Int} (h : IsRow k w a len cap zs) : len ≤ maxLen := by
  rcases h with ⟨_, rfl, _⟩ | ⟨x, _, h1, h2, _⟩
  · unfold maxLen; omega
  · omega

theorem info3 : (Try.prog.info? 3).map (fun i => (i.zero, i.size, i.bytes)) = some (some (.int .i64 0), 1, 8) := by kernel_rfl

def Mine (B : Nat) (w : World) (v : Value) (n : Nat) (F : Nat → Int) : Prop :=
  ∃ a, v = .slice a n n ∧ (0 < n → ∃ g, a = some ⟨g, 0, none⟩ ∧ B ≤ g ∧ g < w.heap.size ∧ ∀ i, i < n → w.cell? ⟨g, i, none⟩ = some (.int .i64 (F i)))

theorem Mine.keep {B : Nat} {w w' : World} {v : Value} {n : Nat} {F : Nat → Int} (h : Mine B w v n F) (hb : Below w.heap.size w w') : Mine B w' v n F := by
  obtain ⟨a, hv, h⟩ := h
  refine ⟨a, hv, fun hn => ?_⟩
  obtain ⟨g, h1, h2, h3, h4⟩ := h hn
  exact ⟨g, h1, h2, Nat.lt_of_lt_of_le h3 hb.size, fun i hi => (hb.cell (by exact h3)).trans (h4 i hi)⟩

theorem mine_of_blk {B : Nat} {w : World} {g : Nat} {n : Nat} {zs : List Int} (hB : B ≤ g) (hz : n ≤ zs.length) (h : Blk w g 3 ((zs.take n).map (Value.int .i64))) :
    Mine B w (.slice (some ⟨g, 0, none⟩) n n) n (fun i => zs.getD i 0) := by
  refine ⟨_, rfl, fun hn => ⟨g, rfl, hB, h.lt, fun i hi => ?_⟩⟩
  rw [h.cell]
  simp [hi, List.getElem?_eq_getElem (show i < zs.length by omega)]
theorem src_cells {w w5 : World} {x : Addr} {zs : List Int} {n : Nat} (hn : n ≤ zs.length) (h4 : ∀ i, i < zs.length → w.cell? (x.add i) = some (Value.int .i64 (zs.getD i 0))) (hb : Below w.heap.size w w5) :
    ∀ j v, ((zs.take n).map (Value.int .i64))[j]? = some v → w5.cell? (x.add j) = some v := by
  intro j v hj
  have hl : j < ((zs.take n).map (Value.int .i64)).length := by
    rcases Nat.lt_or_ge j ((zs.take n).map (Value.int .i64)).length with h | h
    · exact h
    · rw [List.getElem?_eq_none h] at hj; cases hj
  have hl' : j < n := by simp at hl; omega
  have hc := h4 j (by omega)
  have hv : v = .int .i64 (zs.getD j 0) := by
    rw [List.getElem?_eq_getElem hl] at hj
    injection hj with hj
    rw [← hj]
    simp [List.getElem?_eq_getElem (show j < zs.length by omega)]
  rw [hv, ← hc]
  refine hb.cell ?_
  have := World.lt_of_cell hc
  exact this
theorem bytes_yes (a0 a1 : Option Addr) (l0 c0 l1 c1 : Nat) (x y z : Int) (w : World) (h : l0 + l1 ≤ 1048576) :
    Calls Try.prog 4 #[.slice a0 l0 c0, .slice a1 l1 c1, .int .i64 x, .int .i64 y, .int .i64 z] w fun e w' => e = .returned (.bool true) ∧ w = w' := by
  go_enter Try.func4, Try.ntmps4
  go_wp2
  go_ret
  exact ⟨rfl, rfl⟩
theorem bytes_no (a0 a1 : Option Addr) (l0 c0 l1 c1 : Nat) (x y z : Int) (w : World) (h0 : l0 ≤ maxLen) (h1 : l1 ≤ maxLen) (h : ¬ l0 + l1 ≤ 1048576) :
    Calls Try.prog 4 #[.slice a0 l0 c0, .slice a1 l1 c1, .int .i64 x, .int .i64 y, .int .i64 z] w fun e w' => e = .returned (.bool false) ∧ w = w' := by
  unfold maxLen at h0 h1
  by_cases q0 : l0 ≤ 1048576
  · by_cases q1 : l1 ≤ 1048576
    all_goals
      go_enter Try.func4, Try.ntmps4
      go_wp2
      go_ret
      exact ⟨rfl, rfl⟩
  · go_enter Try.func4, Try.ntmps4
    go_wp2
    go_ret
    exact ⟨rfl, rfl⟩

theorem sl_one (f1 n c : Nat) (h : c < n) (wx : World) : (Instr.slice 22 (.slice (some ⟨f1, 0, none⟩) n n) (some (.int .i64 (c : Int))) (some (.int .i64 ((c : Int) + 1))) none).run Try.prog wx = .ok (.slice (some ⟨f1, c, none⟩) 1 (n - c)) wx := by
  have hnc : ¬ n = c := by omega
  have hnd : ¬ c = n := by omega
  have hc1 : c + 1 ≤ n := by omega
  have hc2 : (c : Int) + 1 ≤ (n : Int) := by omega
  go_simp
  intro hh
  omega
theorem S_add (f : Nat → Int) (a : Nat) : ∀ b : Nat, S f (a + b) = S f a + S (fun i => f (a + i)) b := by
  intro b
  induction b with
  | zero => simp [S]
  | succ b ih => rw [← Nat.add_assoc]; simp only [S]; rw [ih]; omega
end Go.Proofs.Qxb6623454a
