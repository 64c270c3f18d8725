/-
  'placement.ZZCapacity' AS A PLAIN FUNCTION.
-/
import Derived.Test.Qxb6623454aCap
namespace Go.Proofs.Qxb6623454a
open Go.RowKit
theorem info29 : (Try.prog.info? 29).map (fun i => (i.zero, i.size, i.bytes)) = some (some (.agg #[.int .i64 0, .int .i64 0]), 2, 16) := by kernel_rfl
/-- What the round of the loop does to the row of spans. -/
theorem row_step {w wr : World} {B : Nat} {n k : Nat} {F T : Nat → Int} {xs : List Value} (hk : k < n) (hbel : Below B w wr) (hblk : Blk wr B 29 xs) (hlen : xs.length = n * 2)
    (hxs : ∀ j, j < k → xs[j * 2]? = some (.int .i64 (F j)) ∧ xs[j * 2 + 1]? = some (.int .i64 (T j))) :
    Below B w ((wr.setCell ⟨B, k * 2, none⟩ (.int .i64 (F k))).setCell ⟨B, k * 2 + 1, none⟩ (.int .i64 (T k))).drew ∧
    ∃ ys, Blk ((wr.setCell ⟨B, k * 2, none⟩ (.int .i64 (F k))).setCell ⟨B, k * 2 + 1, none⟩ (.int .i64 (T k))).drew B 29 ys ∧ ys.length = n * 2 ∧
      ∀ j, j < k + 1 → ys[j * 2]? = some (.int .i64 (F j)) ∧ ys[j * 2 + 1]? = some (.int .i64 (T j)) := by
  refine ⟨((hbel.setCell (Nat.le_refl _) _).setCell (Nat.le_refl _) _).drew, _, ((hblk.set _ _).set _ _).drew, by simpa using hlen, fun j hj => ?_⟩
  by_cases e : j = k
  · subst e
    refine ⟨?_, ?_⟩
    · rw [List.getElem?_set_ne (by omega), List.getElem?_set_self (by omega)]
    · rw [List.getElem?_set_self (by simp; omega)]
  · have := hxs j (by omega)
    refine ⟨?_, ?_⟩
    · rw [List.getElem?_set_ne (by omega), List.getElem?_set_ne (by omega)]; exact this.1
    · rw [List.getElem?_set_ne (by omega), List.getElem?_set_ne (by omega)]; exact this.2

set_option maxHeartbeats 400000 in
theorem zz_pos (gf of gt ot n cf ct : Nat) (jTop hTop : Int) (F T : Nat → Int) (w : World)
   (hh : (hTop == 0) = false) (hn : n ≤ 65536) (hgf : gf < w.heap.size) (hgt : gt < w.heap.size)
   (hF : ∀ i, i < n → w.cell? ⟨gf, of + i, none⟩ = some (.int .i64 (F i)))
   (hT : ∀ i, i < n → w.cell? ⟨gt, ot + i, none⟩ = some (.int .i64 (T i)))
   (hTb : ∀ i, i < n → -70368744177663 ≤ T i ∧ T i ≤ 70368744177663) :
   Calls Try.prog 5 #[.slice (some ⟨gf, of, none⟩) n cf, .slice (some ⟨gt, ot, none⟩) n ct, .int .i64 jTop, .int .i64 hTop] w fun e w' => e = .returned (.tuple #[.int .i64 (min (n : Int) jTop), .int .i64 (min (S T n) hTop)]) ∧ Below w.heap.size w w' := by
  obtain ⟨i0, hi, hz0, hz1, hz2⟩ := info_parts info29
  go_enter Try.func5, Try.ntmps5
  go_wp2_with (at_make; refine wpList_make_full _ rfl _ _ 27 rfl w.heap.size 29 i0 _ 2 Try.underlying27 hi hz0 hz1 .i64 .i64 n n n rfl rfl rfl rfl (by rw [hz2]; omega) (by unfold maxLen; omega) (Nat.le_refl _) ?_; intro w1 hown hgr)
  have hB1 : Below w.heap.size w w1 := (Below.refl _ _).grown hgr (Nat.le_refl _) (fun k hk => by cases hk)
  obtain ⟨b1, bl1, _⟩ := Blk.made hown rfl
  have hL := hB1.size
  clear hown hgr
  generalize (madeCells (Value.agg #[Value.int IntKind.i64 0, Value.int IntKind.i64 0]).cells (n * 2)).toList = ys at b1 bl1
  go_wp2
  go_loopw [18] (fun i wr => ∃ k : Nat, k ≤ n ∧ i = .int .i64 k ∧ Below w.heap.size w wr ∧ ∃ xs, Blk wr w.heap.size 29 xs ∧ xs.length = n * 2 ∧ ∀ j, j < k → xs[j * 2]? = some (.int .i64 (F j)) ∧ xs[j * 2 + 1]? = some (.int .i64 (T j))) (fun i _ => n - (intOf i).toNat)
  case atStart => exact ⟨0, Nat.zero_le _, rfl, hB1, ys, b1, bl1, fun j hj => absurd hj (by omega)⟩
  case round =>
    obtain ⟨k, hk, rfl, hbel, xs, hblk, hlen, hxs⟩ := hrel
    by_cases hlt : k < n
    · have c1 : wr.cell? ⟨gt, ot + k, none⟩ = some (.int .i64 (T k)) := (hbel.cell (by exact hgt)).trans (hT k hlt)
      have c0 : wr.cell? ⟨gf, of + k, none⟩ = some (.int .i64 (F k)) := (hbel.cell (by exact hgf)).trans (hF k hlt)
      obtain ⟨u0, hu0⟩ : ∃ u, xs[k * 2]? = some u := ⟨_, List.getElem?_eq_getElem (by omega)⟩
      obtain ⟨u1, hu1⟩ : ∃ u, xs[k * 2 + 1]? = some u := ⟨_, List.getElem?_eq_getElem (by omega)⟩
      have d0 := (hblk.cell (k * 2)).trans hu0
      have d1 := (hblk.cell (k * 2 + 1)).trans hu1
      have f0 := hblk.free (k * 2)
      have f1 := hblk.free (k * 2 + 1)
      go_wp2
      go_region
      all_goals go_wp2
      go_roundw
      case rel => exact ⟨k + 1, by omega, by go_num, row_step hlt hbel hblk hlen hxs⟩
      case measure => simp [intOf]; omega
    · obtain rfl : k = n := by omega
      have hs := hbel.size
      have hL2 := hblk.lt
      have q1 := ((hblk.alloc (.cells #[.slice (some ⟨w.heap.size, 0, none⟩) k k] 27)).alloc (.cells #[.slice none 0 0, .slice (some ⟨wr.heap.size, 0, none⟩) 1 1, .int .i64 0, .int .i64 0, .int .i64 jTop, .int .i64 hTop, .int .i64 0, .int .i64 0, .slice none 0 0, .slice none 0 0, .slice none 0 0, .slice none 0 0, .slice none 0 0] 36))
      have q2 := (Blk.fresh wr 27 [.slice (some ⟨w.heap.size, 0, none⟩) k k]).alloc (.cells #[.slice none 0 0, .slice (some ⟨wr.heap.size, 0, none⟩) 1 1, .int .i64 0, .int .i64 0, .int .i64 jTop, .int .i64 hTop, .int .i64 0, .int .i64 0, .slice none 0 0, .slice none 0 0, .slice none 0 0, .slice none 0 0, .slice none 0 0] 36)
      have q3 := Blk.fresh (wr.alloc (.cells #[.slice (some ⟨w.heap.size, 0, none⟩) k k] 27)) 36 [.slice none 0 0, .slice (some ⟨wr.heap.size, 0, none⟩) 1 1, .int .i64 0, .int .i64 0, .int .i64 jTop, .int .i64 hTop, .int .i64 0, .int .i64 0, .slice none 0 0, .slice none 0 0, .slice none 0 0, .slice none 0 0, .slice none 0 0]
      rw [World.size_alloc] at q3
      have z1 : ((wr.alloc (.cells #[.slice (some ⟨w.heap.size, 0, none⟩) k k] 27)).alloc (.cells #[.slice none 0 0, .slice (some ⟨wr.heap.size, 0, none⟩) 1 1, .int .i64 0, .int .i64 0, .int .i64 jTop, .int .i64 hTop, .int .i64 0, .int .i64 0, .slice none 0 0, .slice none 0 0, .slice none 0 0, .slice none 0 0, .slice none 0 0] 36)).heap.size = wr.heap.size + 2 := by simp
      go_wp2_with fail
      refine (cap_pos (wr.heap.size + 1) wr.heap.size w.heap.size k jTop hTop F T _ ((q3.cell 5).trans rfl) hh ((q3.cell 4).trans rfl) ((q3.cell 1).trans rfl) ((q2.cell 0).trans rfl) (by omega) q3.lt (by rw [z1]; omega) (fun i hi => (q1.cell _).trans (hxs i hi).2) (fun i hi => (q1.cell _).trans (hxs i hi).1) (fun i hi => hTb i hi)).mono ?_
      rintro e w2 ⟨rfl, hb2⟩
      have hfin : Below w.heap.size w w2 := ((hbel.alloc (by omega) _).alloc (by simp; omega) _).trans (hb2.mono (by rw [z1]; omega))
      clear q1 q2 q3 z1 hb2 hxs hblk
      go_wp2
      go_ret2
      exact ⟨rfl, hfin⟩


set_option maxHeartbeats 400000 in
theorem zz_zero (gf of gt ot n cf ct : Nat) (jTop : Int) (F T : Nat → Int) (w : World)
   (hn0 : 0 < n) (hn : n ≤ 65536) (hgf : gf < w.heap.size) (hgt : gt < w.heap.size)
   (hF : ∀ i, i < n → w.cell? ⟨gf, of + i, none⟩ = some (.int .i64 (F i)))
   (hT : ∀ i, i < n → w.cell? ⟨gt, ot + i, none⟩ = some (.int .i64 (T i))) :
   Calls Try.prog 5 #[.slice (some ⟨gf, of, none⟩) n cf, .slice (some ⟨gt, ot, none⟩) n ct, .int .i64 jTop, .int .i64 0] w fun e w' => e = .returned (.tuple #[.int .i64 (min (T 0) jTop), .int .i64 0]) ∧ Below w.heap.size w w' := by
  obtain ⟨i0, hi, hz0, hz1, hz2⟩ := info_parts info29
  go_enter Try.func5, Try.ntmps5
  go_wp2_with (at_make; refine wpList_make_full _ rfl _ _ 27 rfl w.heap.size 29 i0 _ 2 Try.underlying27 hi hz0 hz1 .i64 .i64 n n n rfl rfl rfl rfl (by rw [hz2]; omega) (by unfold maxLen; omega) (Nat.le_refl _) ?_; intro w1 hown hgr)
  have hB1 : Below w.heap.size w w1 := (Below.refl _ _).grown hgr (Nat.le_refl _) (fun k hk => by cases hk)
  obtain ⟨b1, bl1, _⟩ := Blk.made hown rfl
  have hL := hB1.size
  clear hown hgr
  generalize (madeCells (Value.agg #[Value.int IntKind.i64 0, Value.int IntKind.i64 0]).cells (n * 2)).toList = ys at b1 bl1
  go_wp2
  go_loopw [18] (fun i wr => ∃ k : Nat, k ≤ n ∧ i = .int .i64 k ∧ Below w.heap.size w wr ∧ ∃ xs, Blk wr w.heap.size 29 xs ∧ xs.length = n * 2 ∧ ∀ j, j < k → xs[j * 2]? = some (.int .i64 (F j)) ∧ xs[j * 2 + 1]? = some (.int .i64 (T j))) (fun i _ => n - (intOf i).toNat)
  case atStart => exact ⟨0, Nat.zero_le _, rfl, hB1, ys, b1, bl1, fun j hj => absurd hj (by omega)⟩
  case round =>
    obtain ⟨k, hk, rfl, hbel, xs, hblk, hlen, hxs⟩ := hrel
    by_cases hlt : k < n
    · have c1 : wr.cell? ⟨gt, ot + k, none⟩ = some (.int .i64 (T k)) := (hbel.cell (by exact hgt)).trans (hT k hlt)
      have c0 : wr.cell? ⟨gf, of + k, none⟩ = some (.int .i64 (F k)) := (hbel.cell (by exact hgf)).trans (hF k hlt)
      obtain ⟨u0, hu0⟩ : ∃ u, xs[k * 2]? = some u := ⟨_, List.getElem?_eq_getElem (by omega)⟩
      obtain ⟨u1, hu1⟩ : ∃ u, xs[k * 2 + 1]? = some u := ⟨_, List.getElem?_eq_getElem (by omega)⟩
      have d0 := (hblk.cell (k * 2)).trans hu0
      have d1 := (hblk.cell (k * 2 + 1)).trans hu1
      have f0 := hblk.free (k * 2)
      have f1 := hblk.free (k * 2 + 1)
      go_wp2
      go_region
      all_goals go_wp2
      go_roundw
      case rel => exact ⟨k + 1, by omega, by go_num, row_step hlt hbel hblk hlen hxs⟩
      case measure => simp [intOf]; omega
    · obtain rfl : k = n := by omega
      have hs := hbel.size
      have hL2 := hblk.lt
      have q1 := ((hblk.alloc (.cells #[.slice (some ⟨w.heap.size, 0, none⟩) k k] 27)).alloc (.cells #[.slice none 0 0, .slice (some ⟨wr.heap.size, 0, none⟩) 1 1, .int .i64 0, .int .i64 0, .int .i64 jTop, .int .i64 0, .int .i64 0, .int .i64 0, .slice none 0 0, .slice none 0 0, .slice none 0 0, .slice none 0 0, .slice none 0 0] 36))
      have q2 := (Blk.fresh wr 27 [.slice (some ⟨w.heap.size, 0, none⟩) k k]).alloc (.cells #[.slice none 0 0, .slice (some ⟨wr.heap.size, 0, none⟩) 1 1, .int .i64 0, .int .i64 0, .int .i64 jTop, .int .i64 0, .int .i64 0, .int .i64 0, .slice none 0 0, .slice none 0 0, .slice none 0 0, .slice none 0 0, .slice none 0 0] 36)
      have q3 := Blk.fresh (wr.alloc (.cells #[.slice (some ⟨w.heap.size, 0, none⟩) k k] 27)) 36 [.slice none 0 0, .slice (some ⟨wr.heap.size, 0, none⟩) 1 1, .int .i64 0, .int .i64 0, .int .i64 jTop, .int .i64 0, .int .i64 0, .int .i64 0, .slice none 0 0, .slice none 0 0, .slice none 0 0, .slice none 0 0, .slice none 0 0]
      rw [World.size_alloc] at q3
      have z1 : ((wr.alloc (.cells #[.slice (some ⟨w.heap.size, 0, none⟩) k k] 27)).alloc (.cells #[.slice none 0 0, .slice (some ⟨wr.heap.size, 0, none⟩) 1 1, .int .i64 0, .int .i64 0, .int .i64 jTop, .int .i64 0, .int .i64 0, .int .i64 0, .slice none 0 0, .slice none 0 0, .slice none 0 0, .slice none 0 0, .slice none 0 0] 36)).heap.size = wr.heap.size + 2 := by simp
      go_wp2_with fail
      refine (cap_zero (wr.heap.size + 1) wr.heap.size w.heap.size k jTop (T 0) _ ((q3.cell 5).trans rfl) ((q3.cell 4).trans rfl) ((q3.cell 1).trans rfl) ((q2.cell 0).trans rfl) hn0 ((q1.cell _).trans (hxs 0 hn0).2)).mono ?_
      rintro e w2 ⟨rfl, hb2⟩
      have hfin : Below w.heap.size w w2 := ((hbel.alloc (by omega) _).alloc (by simp; omega) _).trans (hb2.mono (by rw [z1]; omega))
      clear q1 q2 q3 z1 hb2 hxs hblk
      go_wp2
      go_ret2
      exact ⟨rfl, hfin⟩


set_option maxHeartbeats 400000 in
theorem zz_none (af at_ : Option Addr) (cf ct : Nat) (jTop hTop : Int) (w : World)
   (hh : (hTop == 0) = false) :
   Calls Try.prog 5 #[.slice af 0 cf, .slice at_ 0 ct, .int .i64 jTop, .int .i64 hTop] w fun e w' => e = .returned (.tuple #[.int .i64 (min 0 jTop), .int .i64 (min 0 hTop)]) ∧ Below w.heap.size w w' := by
  obtain ⟨i0, hi, hz0, hz1, hz2⟩ := info_parts info29
  go_enter Try.func5, Try.ntmps5
  go_wp2_with (at_make; refine wpList_make_full _ rfl _ _ 27 rfl w.heap.size 29 i0 _ 2 Try.underlying27 hi hz0 hz1 .i64 .i64 0 0 0 rfl rfl rfl rfl (by rw [hz2]; omega) (by unfold maxLen; omega) (Nat.le_refl _) ?_; intro w1 hown hgr)
  have hB1 : Below w.heap.size w w1 := (Below.refl _ _).grown hgr (Nat.le_refl _) (fun k hk => by cases hk)
  obtain ⟨b1, bl1, _⟩ := Blk.made hown rfl
  have hL := hB1.size
  clear hown hgr
  generalize (madeCells (Value.agg #[Value.int IntKind.i64 0, Value.int IntKind.i64 0]).cells (0 * 2)).toList = ys at b1 bl1
  go_wp2
  go_loopw [18] (fun i wr => ∃ k : Nat, k ≤ 0 ∧ i = .int .i64 k ∧ Below w.heap.size w wr ∧ ∃ xs, Blk wr w.heap.size 29 xs ∧ xs.length = 0 * 2 ∧ ∀ j, j < k → xs[j * 2]? = some (.int .i64 0) ∧ xs[j * 2 + 1]? = some (.int .i64 0)) (fun i _ => 0 - (intOf i).toNat)
  case atStart => exact ⟨0, Nat.zero_le _, rfl, hB1, ys, b1, bl1, fun j hj => absurd hj (by omega)⟩
  case round =>
    obtain ⟨k, hk, rfl, hbel, xs, hblk, hlen, hxs⟩ := hrel
    by_cases hlt : k < 0
    · omega
    · obtain rfl : k = 0 := by omega
      have hs := hbel.size
      have hL2 := hblk.lt
      have q1 := ((hblk.alloc (.cells #[.slice (some ⟨w.heap.size, 0, none⟩) 0 0] 27)).alloc (.cells #[.slice none 0 0, .slice (some ⟨wr.heap.size, 0, none⟩) 1 1, .int .i64 0, .int .i64 0, .int .i64 jTop, .int .i64 hTop, .int .i64 0, .int .i64 0, .slice none 0 0, .slice none 0 0, .slice none 0 0, .slice none 0 0, .slice none 0 0] 36))
      have q2 := (Blk.fresh wr 27 [.slice (some ⟨w.heap.size, 0, none⟩) 0 0]).alloc (.cells #[.slice none 0 0, .slice (some ⟨wr.heap.size, 0, none⟩) 1 1, .int .i64 0, .int .i64 0, .int .i64 jTop, .int .i64 hTop, .int .i64 0, .int .i64 0, .slice none 0 0, .slice none 0 0, .slice none 0 0, .slice none 0 0, .slice none 0 0] 36)
      have q3 := Blk.fresh (wr.alloc (.cells #[.slice (some ⟨w.heap.size, 0, none⟩) 0 0] 27)) 36 [.slice none 0 0, .slice (some ⟨wr.heap.size, 0, none⟩) 1 1, .int .i64 0, .int .i64 0, .int .i64 jTop, .int .i64 hTop, .int .i64 0, .int .i64 0, .slice none 0 0, .slice none 0 0, .slice none 0 0, .slice none 0 0, .slice none 0 0]
      rw [World.size_alloc] at q3
      have z1 : ((wr.alloc (.cells #[.slice (some ⟨w.heap.size, 0, none⟩) 0 0] 27)).alloc (.cells #[.slice none 0 0, .slice (some ⟨wr.heap.size, 0, none⟩) 1 1, .int .i64 0, .int .i64 0, .int .i64 jTop, .int .i64 hTop, .int .i64 0, .int .i64 0, .slice none 0 0, .slice none 0 0, .slice none 0 0, .slice none 0 0, .slice none 0 0] 36)).heap.size = wr.heap.size + 2 := by simp
      go_wp2_with fail
      refine (cap_pos (wr.heap.size + 1) wr.heap.size w.heap.size 0 jTop hTop (fun _ => 0) (fun _ => 0) _ ((q3.cell 5).trans rfl) hh ((q3.cell 4).trans rfl) ((q3.cell 1).trans rfl) ((q2.cell 0).trans rfl) (by omega) q3.lt (by rw [z1]; omega) (fun i hi => absurd hi (by omega)) (fun i hi => absurd hi (by omega)) (fun i hi => absurd hi (by omega))).mono ?_
      rintro e w2 ⟨rfl, hb2⟩
      have hfin : Below w.heap.size w w2 := ((hbel.alloc (by omega) _).alloc (by simp; omega) _).trans (hb2.mono (by rw [z1]; omega))
      clear q1 q2 q3 z1 hb2 hxs hblk
      go_wp2
      go_ret2
      exact ⟨rfl, hfin⟩


theorem zz_max (gf of gt ot n cf ct : Nat) (F T : Nat → Int) (w : World) (hn : n ≤ 65536) (hgf : gf < w.heap.size) (hgt : gt < w.heap.size)
   (hF : ∀ i, i < n → w.cell? ⟨gf, of + i, none⟩ = some (.int .i64 (F i)))
   (hT : ∀ i, i < n → w.cell? ⟨gt, ot + i, none⟩ = some (.int .i64 (T i)))
   (hTb : ∀ i, i < n → -70368744177663 ≤ T i ∧ T i ≤ 70368744177663) :
   Calls Try.prog 5 #[.slice (some ⟨gf, of, none⟩) n cf, .slice (some ⟨gt, ot, none⟩) n ct, .int .i64 9223372036854775807, .int .i64 9223372036854775807] w fun e w' => e = .returned (.tuple #[.int .i64 (n : Int), .int .i64 (S T n)]) ∧ Below w.heap.size w w' := by
  refine (zz_pos gf of gt ot n cf ct 9223372036854775807 9223372036854775807 F T w rfl hn hgf hgt hF hT hTb).mono ?_
  rintro e w' ⟨rfl, hb⟩
  have sb := S_bd T 70368744177663 (by omega) n hTb n (Nat.le_refl _)
  have e1 : min (n : Int) 9223372036854775807 = n := by omega
  have e2 : min (S T n) 9223372036854775807 = S T n := by omega
  rw [e1, e2]
  exact ⟨rfl, hb⟩
theorem zz_one (gf of gt ot cf ct : Nat) (x y : Int) (w : World) (hgf : gf < w.heap.size) (hgt : gt < w.heap.size)
   (hF : w.cell? ⟨gf, of, none⟩ = some (.int .i64 x))
   (hT : w.cell? ⟨gt, ot, none⟩ = some (.int .i64 y))
   (hTb : -70368744177663 ≤ y ∧ y ≤ 70368744177663) :
   Calls Try.prog 5 #[.slice (some ⟨gf, of, none⟩) 1 cf, .slice (some ⟨gt, ot, none⟩) 1 ct, .int .i64 9223372036854775807, .int .i64 9223372036854775807] w fun e w' => e = .returned (.tuple #[.int .i64 1, .int .i64 y]) ∧ Below w.heap.size w w' := by
  refine (zz_max gf of gt ot 1 cf ct (fun _ => x) (fun _ => y) w (by omega) hgf hgt ?_ ?_ (fun _ _ => hTb)).mono ?_
  · intro i hi
    obtain rfl : i = 0 := by omega
    exact hF
  · intro i hi
    obtain rfl : i = 0 := by omega
    exact hT
  · rintro e w' ⟨rfl, hb⟩
    have e2 : S (fun _ => y) 1 = y := by simp [S]
    rw [e2]
    exact ⟨rfl, hb⟩
theorem zz_nonemax (af at_ : Option Addr) (cf ct : Nat) (w : World) :
   Calls Try.prog 5 #[.slice af 0 cf, .slice at_ 0 ct, .int .i64 9223372036854775807, .int .i64 9223372036854775807] w fun e w' => e = .returned (.tuple #[.int .i64 0, .int .i64 0]) ∧ Below w.heap.size w w' := by
  refine (zz_none af at_ cf ct 9223372036854775807 9223372036854775807 w rfl).mono ?_
  rintro e w' ⟨rfl, hb⟩
  have e1 : min (0 : Int) 9223372036854775807 = 0 := by omega
  rw [e1]
  exact ⟨rfl, hb⟩
theorem zz_nonemax' (af at_ : Option Addr) (m cf ct : Nat) (w : World) (hm : m < 1) :
   Calls Try.prog 5 #[.slice af m cf, .slice at_ m ct, .int .i64 9223372036854775807, .int .i64 9223372036854775807] w fun e w' => e = .returned (.tuple #[.int .i64 (m : Int), .int .i64 0]) ∧ Below w.heap.size w w' := by
  obtain rfl : m = 0 := by omega
  exact zz_nonemax af at_ cf ct w
theorem zz_none' (af at_ : Option Addr) (m cf ct : Nat) (jTop hTop : Int) (w : World) (hh : (hTop == 0) = false) (hm : m < 1) :
   Calls Try.prog 5 #[.slice af m cf, .slice at_ m ct, .int .i64 jTop, .int .i64 hTop] w fun e w' => e = .returned (.tuple #[.int .i64 (min (m : Int) jTop), .int .i64 (min 0 hTop)]) ∧ Below w.heap.size w w' := by
  obtain rfl : m = 0 := by omega
  exact zz_none af at_ cf ct jTop hTop w hh
theorem capmin (a b : Int) (w : World) : Calls Try.prog 6 #[.int .i64 a, .int .i64 b] w fun e w' => e = .returned (.int .i64 (min a b)) ∧ w = w' := by
  by_cases h : a < b
  · have e : min a b = a := by omega
    rw [e]
    clear e
    go_enter Try.func6, Try.ntmps6
    go_wp2
    go_ret
    exact ⟨rfl, rfl⟩
  · have e : min a b = b := by omega
    rw [e]
    clear e
    go_enter Try.func6, Try.ntmps6
    go_wp2
    go_ret
    exact ⟨rfl, rfl⟩
end Go.Proofs.Qxb6623454a
