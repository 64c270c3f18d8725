/-
  'zzNodeB1Clone': a deep copy, its rows in blocks of their own.
-/
import Derived.Test.Qxb6617250aOwn
import Derived.Deep.DeepCutAuto
import Derived.Deep.CutBlock
namespace Go.Proofs.Qxb6617250a
open Go.RowKit
set_option linter.unusedVariables false

theorem made_rows {w : World} {B g n : Nat} (h : w.ownsRow B 26 1 (.slice (some ⟨g, 0, none⟩) n n) n (madeCells (Value.slice none 0 0).cells (n * 1)).toList) : Blk w g 26 (List.replicate n (.slice none 0 0)) := by
  obtain ⟨h1, _, _⟩ := Blk.made h rfl
  have e : (madeCells (Value.slice none 0 0).cells (n * 1)).toList = List.replicate n (.slice none 0 0) := by
    rw [Nat.mul_one]
    exact toList_madeCells_one _ _
  rw [e] at h1
  exact h1
/-- The clone on its way: k rows are there. -/
def CloneAt (B : Nat) (w : World) (G : Nat) (L : List (List ByteArray)) (k : Nat) : Prop := ∃ vs, ORows B w.heap.size w G vs (part L k)

set_option maxRecDepth 100000 in
set_option maxHeartbeats 4000000 in
theorem clone_any (x : Value) (L : List (List ByteArray)) (w : World) (h : SSR w x L) (hl : L.length ≤ 65536) (hs : ∀ R ∈ L, R.length ≤ 65536) :
    Calls Try.prog 8 #[x] w fun e w' => ∃ u, e = .returned u ∧ Hid (Own w.heap.size w'.heap.size w' u L) ∧ Below w.heap.size w w' := by
  obtain ⟨a, cap, rfl, h⟩ := h
  have HH : Hid _ := h
  have HS : Hid _ := hs
  clear h hs
  obtain ⟨i0, hi, hz0, hz1, hz2⟩ := info_parts info26
  obtain ⟨i9, hi9, hz90, hz91, hz92⟩ := info_parts info9
  have hn22 := fun wx a n c => Lib.run_eql_slice_nil (P := Try.prog) wx 22 26 a n c 0 0 Try.underlying22
  have hn26 := fun wx a n c => Lib.run_eql_slice_nil (P := Try.prog) wx 26 9 a n c 0 0 Try.underlying26
  cases a with
  | none =>
    have h0 : L = [] := by
      rcases L with _ | ⟨R, L⟩
      · rfl
      · obtain ⟨b, off, h1, _⟩ := HH.out (by simp)
        cases h1
    subst h0
    go_enter Try.func8, Try.ntmps8
    go_wp2
    go_ret
    exact ⟨_, rfl, .inl ⟨rfl, rfl⟩, Below.refl _ _⟩
  | some a =>
    go_enter Try.func8, Try.ntmps8
    go_wp2_with (at_make; refine wpList_make_full _ rfl _ _ 22 rfl w.heap.size 26 i0 _ 1 Try.underlying22 hi hz0 hz1 .i64 .i64 L.length L.length L.length rfl rfl rfl rfl (by rw [hz2]; omega) (by unfold maxLen; omega) (Nat.le_refl _) ?_; intro w1 hown hgr; have hB1 : Below w.heap.size w w1 := (Below.refl _ _).grown hgr (Nat.le_refl _) (fun k hk => by cases hk); have hm1 := made_rows hown; clear hown hgr)
    have HC0 : Hid (CloneAt w.heap.size w1 w.heap.size L 0) := by
      have h1 := rows_made (Nat.le_refl _) hm1
      rw [← part_zero] at h1
      exact ⟨_, h1.grow hm1.lt⟩
    clear hm1
    go_loopw [4] (fun si wr => ∃ k : Nat, k ≤ L.length ∧ si = .int .i64 k ∧ Hid (CloneAt w.heap.size wr w.heap.size L k) ∧ Below w.heap.size w wr) (fun si _ => L.length - (intOf si).toNat)
    case atStart => exact ⟨0, Nat.zero_le _, rfl, HC0.out, hB1⟩
    case round =>
      clear HC0 hB1
      obtain ⟨k, hk, rfl, HC, hbel⟩ := hrel
      have hzz := hbel.size
      by_cases hlt : k < L.length
      · obtain ⟨b, off, hb0, hb1, hb2⟩ := HH.out (by omega)
        obtain rfl : a = ⟨b, off, none⟩ := by cases hb0; rfl
        clear hb0
        obtain ⟨R, hR1, hR2⟩ := drop_atL hlt
        obtain ⟨rv, c0, ra, rcap, rfl, hr⟩ := hb2 k R hR1
        have c1 : wr.cell? ⟨b, off + k, none⟩ = some (.slice ra R.length rcap) := (hbel.cell (by exact hb1)).trans c0
        have hRl : R.length ≤ 65536 := HS.out R (List.mem_of_getElem? hR1)
        have HR1 : Hid (L[k]? = some R) := hR1
        have HR : Hid _ := hr
        clear hr hb2 hR1 hR2 c0
        cases ra with
        | none =>
          have h0 : R = [] := by
            rcases R with _ | ⟨s, R⟩
            · rfl
            · obtain ⟨b, off, h1, _⟩ := HR.out (by simp)
              cases h1
          have HN : Hid (CloneAt w.heap.size wr w.heap.size L (k + 1)) := by
            obtain ⟨vs, h1⟩ := HC.out
            refine ⟨vs, ?_⟩
            rw [← part_nil (by rw [HR1.out, h0])]
            exact h1
          clear h0
          go_wp2
          go_roundw
          case rel => exact ⟨k + 1, by omega, by go_num, HN.out, hbel⟩
          case measure => simp [intOf]; omega
        | some ra =>
          go_wp2_with (at_make; refine wpList_make_full _ rfl _ _ 26 rfl w.heap.size 9 i9 _ 1 Try.underlying26 hi9 hz90 hz91 .i64 .i64 R.length R.length R.length rfl rfl rfl rfl (by rw [hz92]; omega) (by unfold maxLen; omega) hzz ?_; intro w2 hown hgr; have hB2 : Below wr.heap.size wr w2 := (Below.refl _ _).grown hgr (Nat.le_refl _) (fun k hk => by cases hk); obtain ⟨b1, bl1, _⟩ := Blk.made hown rfl; clear hown hgr)
          generalize (madeCells (Value.string ByteArray.empty).cells (R.length * 1)).toList = ys at b1 bl1
          have hg2 := b1.lt
          have HB0 : Hid (Blk w2 wr.heap.size 9 (sv (R.take 0) ++ ys) ∧ ys.length = R.length - 0) := ⟨b1, by omega⟩
          clear b1 bl1
          obtain ⟨wo, rfl⟩ : ∃ wo, wo = wr := ⟨wr, rfl⟩
          go_loopw [6] (fun s6 wr => ∃ j : Nat, j ≤ R.length ∧ s6 = .int .i64 j ∧ Below wo.heap.size wo wr ∧ wo.heap.size < wr.heap.size ∧ ∃ zs, Hid (Blk wr wo.heap.size 9 (sv (R.take j) ++ zs) ∧ zs.length = R.length - j)) (fun s6 _ => R.length - (intOf s6).toNat)
          case atStart => exact ⟨0, Nat.zero_le _, rfl, hB2, hg2, ys, HB0.out⟩
          case round =>
            clear HB0 hB2 hg2
            obtain ⟨j, hj, rfl, hbe2, hg2, zs, HB⟩ := hrel
            have hbe3 : Below w.heap.size w wr := hbel.trans (hbe2.mono hzz)
            have c3 : wr.cell? ⟨b, off + k, none⟩ = some (.slice (some ra) R.length rcap) := (hbe2.cell (by show b < wo.heap.size; omega)).trans c1
            by_cases hjl : j < R.length
            · obtain ⟨b', off', hb0', hb1', hb2'⟩ := HR.out (by omega)
              obtain rfl : ra = ⟨b', off', none⟩ := by cases hb0'; rfl
              clear hb0'
              obtain ⟨s, hs1, hs2⟩ := drop_atS hjl
              have c2 : wr.cell? ⟨b', off' + j, none⟩ = some (.string s) := (hbe3.cell (by exact hb1')).trans (hb2' j s hs1)
              have hkl : (R.take j).length = j := by rw [List.length_take]; omega
              obtain ⟨u0, d0⟩ := blk_old HB.out.1 hkl (by rw [HB.out.2]; omega)
              have f0 := HB.out.1.free j
              have HT : Hid (R.take (j + 1) = R.take j ++ [s]) := by show _ = _; rw [List.take_add_one, hs1]; rfl
              have HNX : Hid _ := blk_next (s := s) HB.out.1 hkl (by rw [HB.out.2]; omega)
              have HZL : Hid ((zs.drop 1).length = R.length - (j + 1)) := by show _ = _; rw [List.length_drop, HB.out.2]; omega
              clear hs1 hs2 hb2' hkl
              go_wp2
              go_roundw
              case rel => exact ⟨j + 1, by omega, by go_num, hbe2.setCell (Nat.le_refl _) _, by simpa using hg2, zs.drop 1, by rw [HT.out]; exact HNX.out, HZL.out⟩
              case measure => simp [intOf]; omega
            · have HF : Hid (Blk wr wo.heap.size 9 (sv R)) := by
                have h1 := HB.out
                have h2 : zs = [] := List.eq_nil_of_length_eq_zero (by omega)
                rw [h2, List.append_nil, List.take_of_length_le (by omega)] at h1
                exact h1.1
              have HG : Hid (CloneAt w.heap.size (wr.setCell ⟨w.heap.size, k, none⟩ (.slice (some ⟨wo.heap.size, 0, none⟩) R.length R.length)) w.heap.size L (k + 1)) := by
                obtain ⟨vs, h1⟩ := HC.out
                have := h1.put (w' := wr) (fun b hb => hbe2.block b hb) (by omega) (Nat.le_refl _) HF.out (i := k) (by rw [part_length hk]; exact hlt)
                rw [part_set HR1.out] at this
                exact ⟨_, this.grow (by simp)⟩
              obtain ⟨v0, d0, f0⟩ : ∃ v0, wr.cell? ⟨w.heap.size, k, none⟩ = some v0 ∧ wr.frozen? ⟨w.heap.size, k, none⟩ = false := by
                obtain ⟨vs, h1⟩ := HC.out
                have h2 := (h1.keep (w' := wr) (fun b hb => hbe2.block b hb)).blk
                have h3 : k < vs.length := by rw [h1.len, part_length hk]; exact hlt
                exact ⟨vs[k], by rw [h2.cell]; exact List.getElem?_eq_getElem h3, h2.free k⟩
              clear HC HB
              go_wp2
              go_roundw
              case rel => exact ⟨k + 1, by omega, by go_num, HG.out, hbe3.setCell (Nat.le_refl _) _⟩
              case measure => simp [intOf]; omega
      · have HF : Hid (Own w.heap.size wr.heap.size wr (.slice (some ⟨w.heap.size, 0, none⟩) L.length L.length) L) := by
          obtain ⟨vs, h1⟩ := HC.out
          rw [part_all (by omega)] at h1
          exact .inr ⟨_, vs, rfl, h1⟩
        clear HC
        go_wp2
        go_ret
        exact ⟨_, rfl, HF.out, hbel⟩
end Go.Proofs.Qxb6617250a
