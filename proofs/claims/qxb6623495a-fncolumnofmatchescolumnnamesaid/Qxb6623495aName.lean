/-
  'zzNameIs' AS A PLAIN FUNCTION: the name of the column that 'columnOf' answers is the letters of the reference.
-/
import Derived.Test.Qxb6623495aCol
namespace Go.Proofs.Qxb6623495a
open Go.RowKit
set_option linter.unusedVariables false

theorem name_step {f : Nat → Int} {l t : Nat} {xs : List Value} (hl : l ≤ 3) (ht : t < l) (hx : xs.length = 3) (h : ∀ j, l - t ≤ j → j < l → xs[3 - l + j]? = some (.int .u8 (f j))) :
    ∀ j, l - (t + 1) ≤ j → j < l → (xs.set (3 - t - 1) (.int .u8 (f (l - t - 1))))[3 - l + j]? = some (.int .u8 (f j)) := by
  intro j h1 h2
  by_cases e : j = l - t - 1
  · subst e
    rw [show 3 - l + (l - t - 1) = 3 - t - 1 by omega, List.getElem?_set_self (by omega)]
  · rw [List.getElem?_set_ne (by omega)]
    exact h j (by omega) h2

set_option maxHeartbeats 1000000 in
theorem name_any (b off n c l : Nat) (f : Nat → Int) (w : World) (hn : n ≤ 65536) (hb : ∀ i, i < n → 0 ≤ f i ∧ f i ≤ 255)
    (hc : ∀ i, i < n → w.cell? ⟨b, off + i, none⟩ = some (.int .u8 (f i))) (hbw : b < w.heap.size) (hl1 : 1 ≤ l) (hl : l ≤ 3) (hln : l < n) (hU : ∀ j, j < l → U f j) :
    Calls Try.prog 8 #[.int .i64 (colv f l - 1), .slice (some ⟨b, off, none⟩) n c, .int .i64 l] w fun e w' => e = .returned (.bool true) ∧ Below w.heap.size w w' := by
  have cb0 := colv_bd f l hl hU
  have HU : Hid (∀ j, j < l → U f j) := hU
  have HC : Hid (∀ i, i < n → w.cell? ⟨b, off + i, none⟩ = some (.int .u8 (f i))) := hc
  clear hU hc
  have hd0 : colv f l - 1 + 1 = colv f l := by omega
  go_enter Try.func8, Try.ntmps8
  go_wp2
  go_loopw [8, 9] (fun i m wr => ∃ t : Nat, t ≤ l ∧ i = .int .i64 ((3 : Int) - t) ∧ m = .int .i64 (colv f (l - t)) ∧ Below w.heap.size w wr ∧ ∃ xs, Blk wr w.heap.size 28 xs ∧ xs.length = 3 ∧ ∀ j, l - t ≤ j → j < l → xs[3 - l + j]? = some (.int .u8 (f j))) (fun _ m _ => (intOf m).toNat)
  case atStart =>
    refine ⟨0, Nat.zero_le _, rfl, by simp, (Below.refl _ _).alloc (Nat.le_refl _) _, _, Blk.fresh w 28 [.int .u8 0, .int .u8 0, .int .u8 0], rfl, fun j h1 h2 => absurd h2 (by omega)⟩
  case round =>
    obtain ⟨t, ht, rfl, rfl, hbel, xs, hblk, hxl, hxs⟩ := hrel
    have hz := hbel.size
    clear hd0
    by_cases hlt : t < l
    · have hUt := HU.out (l - t - 1) (by omega)
      have hcb := colv_bd f (l - t) (by omega) (fun j hj => HU.out j (by omega))
      have hm : (colv f (l - t) - 1) % 26 = f (l - t - 1) - 65 := by
        rw [show l - t = (l - t - 1) + 1 by omega]; exact colv_mod f _ hUt
      have hd : (colv f (l - t) - 1) / 26 = colv f (l - t - 1) := by
        rw [show l - t = (l - t - 1) + 1 by omega]; exact colv_div f _ hUt
      have hcb2 := colv_bd f (l - t - 1) (by omega) (fun j hj => HU.out j (by omega))
      have hpos : 0 < colv f (l - t) := hcb.2.2.1 (by omega)
      have hle : colv f (l - t) ≤ 18278 := hcb.2.1
      have HM : Hid _ := hm
      have HD : Hid _ := hd
      have HP : Hid (0 ≤ colv f (l - t - 1) ∧ colv f (l - t - 1) < colv f (l - t)) := by
        refine ⟨hcb2.1, ?_⟩
        rw [← hd]; omega
      clear hm hd hcb hcb2 cb0
      generalize hM : colv f (l - t) = M at *
      have HMM : Hid _ := hM
      clear hM
      obtain ⟨u0, hu0⟩ : ∃ u, xs[3 - t - 1]? = some u := ⟨_, List.getElem?_eq_getElem (by omega)⟩
      have d0 := (hblk.cell (3 - t - 1)).trans hu0
      have f0 := hblk.free (3 - t - 1)
      clear hu0
      go_wp2
      go_roundw
      case rel =>
        have e1 : (65 : Int) + (M - 1) % 26 = f (l - t - 1) := by rw [HM.out]; omega
        rw [e1]
        exact ⟨t + 1, by omega, by go_num, by rw [HD.out]; rfl, hbel.setCell (Nat.le_refl _) _, _, hblk.set _ _, by simpa using hxl, name_step hl hlt hxl hxs⟩
      case measure =>
        have := HP.out
        simp only [intOf]
        rw [HD.out]
        omega
    · obtain rfl : t = l := by omega
      have e0 : colv f (t - t) = 0 := by rw [Nat.sub_self]; rfl
      rw [e0]
      clear e0 cb0
      have HX : Hid (∀ j, j < t → wr.cell? ⟨w.heap.size, 3 - t + j, none⟩ = some (.int .u8 (f j))) := fun j hj => (hblk.cell _).trans (hxs j (by omega) hj)
      have HR : Hid (∀ j, j < t → wr.cell? ⟨b, off + j, none⟩ = some (.int .u8 (f j))) := fun j hj => (hbel.cell (by exact hbw)).trans (HC.out j (by omega))
      clear hxs hblk
      go_wp2
      go_loopw [10] (fun i wq => ∃ j : Nat, j ≤ t ∧ i = .int .i64 j ∧ ∃ q, wq = wr.drewN q) (fun i _ => t - (intOf i).toNat)
      case atStart => exact ⟨0, Nat.zero_le _, rfl, 0, rfl⟩
      case round =>
        obtain ⟨j, hj, rfl, q, rfl⟩ := hrel
        by_cases hjl : j < t
        · have c1 := HX.out j hjl
          have c2 := HR.out j hjl
          go_wp2
          go_quiet (fail)
          go_wp2
          go_roundw
          case rel => exact ⟨j + 1, by omega, by go_num, _, rfl⟩
          case measure => simp [intOf]; omega
        · go_wp2
          go_ret
          exact ⟨rfl, below_drewN' hbel _⟩
end Go.Proofs.Qxb6623495a
