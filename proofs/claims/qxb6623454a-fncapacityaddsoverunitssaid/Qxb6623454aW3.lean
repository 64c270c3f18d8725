/-
  THE LAW: some of its cases.
-/
import Derived.Test.Qxb6623454aFront
namespace Go.Proofs.Qxb6623454a
open Go.RowKit
set_option linter.unusedVariables false
set_option maxRecDepth 100000 in
set_option maxHeartbeats 4000000 in
theorem walk_main2 (a0 : Option Addr) (n cap0 : Nat) (z0 : List Int) (a1 : Option Addr) (cap1 : Nat) (z1 : List Int) (a3 : Int) (a4 : Int) (w : World) (w0 : IsRow .i64 w a0 n cap0 z0) (w1 : IsRow .i64 w a1 n cap1 z1)
   (hfit : n + n ≤ 1048576) (hl0 : n ≤ 65536) (h4 : (a4 == 0) = false) (hn0 : 0 < n) :
    Calls Try.prog 3 #[.slice a0 n cap0, .slice a1 n cap1, .int .i64 (n : Int), .int .i64 a3, .int .i64 a4] w fun e w' => e = .returned (.bool true) ∧ Below w.heap.size w w' := by
  obtain ⟨i0, hi, hz0, hz1, hz2⟩ := info_parts info3
  have hne := fun wx a n c => run_neq_slice_nil_any (P := Try.prog) wx 22 3 a n c 0 0 Try.underlying22
  have d0 : decide ((65536 : Int) < (n : Int)) = false := decide_eq_false (by omega)
  go_enter Try.func3, Try.ntmps3
  go_upto_if 46 with (go_at_call 4; refine (bytes_yes _ _ _ _ _ _ _ _ _ _ hfit).mono ?_; rintro e w' ⟨rfl, rfl⟩)
  go_cut [0] (fun s0 wc => Mine w.heap.size wc s0 n (fun i => z0.getD i 0) ∧ Below w.heap.size w wc)
  case first =>
    rcases w0 with ⟨rfl, rfl, rfl, rfl⟩ | ⟨x, rfl, h1, h2, h3, h4, h5⟩
    · omega
    · obtain ⟨X, hX⟩ : ∃ X, X = (z0.take n).map (Value.int .i64) := ⟨_, rfl⟩
      have hXl : X.length = n := by rw [hX]; simp; omega
      have hXs : ∀ w5, Below w.heap.size w w5 → ∀ j v, X[j]? = some v → w5.cell? (x.add j) = some v := by rw [hX]; intro w5 hb5; exact src_cells (by omega) h4 hb5
      have hX1 : ∀ v ∈ X, v.oneCell' = true := by rw [hX]; exact ints_oneCell _ _
      have HX : Hid (X = (z0.take n).map (Value.int .i64)) := hX
      clear hX h4 h5
      go_wp2_with (first | (at_make; refine wpList_make_full _ rfl _ _ 22 rfl w.heap.size 3 i0 _ 1 Try.underlying22 hi hz0 hz1 .i64 .i64 n n n rfl rfl rfl rfl (by rw [hz2]; omega) (by unfold maxLen; omega) (Nat.le_refl _) ?_; intro w5 hown hgr; have hB5 : Below w.heap.size w w5 := (Below.refl _ _).grown hgr (Nat.le_refl _) (fun k hk => by cases hk); obtain ⟨b5, bl5, _⟩ := Blk.made hown rfl; have hB6 := hB5; clear hown hgr) | (refine wpList_copy_all rfl (.tmp 50) (.tmp 51) 22 22 rfl 3 Try.underlying22 (by kernel_rfl) w.heap.size n x cap0 rfl rfl _ 3 b5 (by simpa using bl5) X hXl (hXs _ hB5) hX1 w.heap.size w hB6 (Nat.le_refl _) ?_; intro w6 HG6 hB7))
      go_meet
      case rel => exact ⟨mine_of_blk (Nat.le_refl _) (by omega) (by rw [← HX.out]; exact HG6.out), hB7⟩
  case rest =>
    obtain ⟨⟨f, rfl, hf⟩, hbc⟩ := hcut
    have hM0 : Mine w.heap.size wc (.slice f n n) n (fun i => z0.getD i 0) := ⟨f, rfl, hf⟩
    clear hf
    have hzc := hbc.size
    go_upto_if 55 with fail
    go_cut [1] (fun s1 wd => Mine w.heap.size wd s1 n (fun i => z1.getD i 0) ∧ Mine w.heap.size wd (.slice f n n) n (fun i => z0.getD i 0) ∧ Below w.heap.size w wd)
    case first =>
      rcases w1 with ⟨rfl, rfl, rfl, rfl⟩ | ⟨x, rfl, h1, h2, h3, h4, h5⟩
      · omega
      · obtain ⟨X, hX⟩ : ∃ X, X = (z1.take n).map (Value.int .i64) := ⟨_, rfl⟩
        have hXl : X.length = n := by rw [hX]; simp; omega
        have hXs : ∀ w5, Below w.heap.size w w5 → ∀ j v, X[j]? = some v → w5.cell? (x.add j) = some v := by rw [hX]; intro w5 hb5; exact src_cells (by omega) h4 hb5
        have hX1 : ∀ v ∈ X, v.oneCell' = true := by rw [hX]; exact ints_oneCell _ _
        have HX : Hid (X = (z1.take n).map (Value.int .i64)) := hX
        clear hX h4 h5
        go_wp2_with (first | (at_make; refine wpList_make_full _ rfl _ _ 22 rfl w.heap.size 3 i0 _ 1 Try.underlying22 hi hz0 hz1 .i64 .i64 n n n rfl rfl rfl rfl (by rw [hz2]; omega) (by unfold maxLen; omega) hzc ?_; intro w5 hown hgr; have hB5 : Below w.heap.size w w5 := hbc.grown hgr hzc (fun k hk => by cases hk); obtain ⟨b5, bl5, _⟩ := Blk.made hown rfl; have hB6 : Below wc.heap.size wc w5 := (Below.refl _ _).grown hgr (Nat.le_refl _) (fun k hk => by cases hk); clear hown hgr) | (refine wpList_copy_all rfl (.tmp 59) (.tmp 60) 22 22 rfl 3 Try.underlying22 (by kernel_rfl) wc.heap.size n x cap1 rfl rfl _ 3 b5 (by simpa using bl5) X hXl (hXs _ hB5) hX1 wc.heap.size wc hB6 (Nat.le_refl _) ?_; intro w6 HG6 hB7))
        go_meet
        case rel => exact ⟨mine_of_blk hzc (by omega) (by rw [← HX.out]; exact HG6.out), hM0.keep hB7, hbc.trans (hB7.mono hzc)⟩
    case rest =>
      obtain ⟨hM1, hM0, hbd⟩ := hcut
      clear hbc hzc
      obtain ⟨G, hG⟩ : ∃ G : Nat → Int, G = fun i => z1.getD i 0 := ⟨_, rfl⟩
      obtain ⟨F, hF⟩ : ∃ F : Nat → Int, F = fun i => z0.getD i 0 := ⟨_, rfl⟩
      rw [← hG] at hM1
      rw [← hF] at hM0
      clear hG hF
      obtain ⟨g0, rfl, hg⟩ := hM1
      obtain ⟨f0, hfe, hf⟩ := hM0
      obtain ⟨f1, rfl, hf1, hf2, hf3⟩ := hf hn0
      obtain ⟨g1, rfl, hg1, hg2, hg3⟩ := hg hn0
      injection hfe with hfe
      subst hfe
      have hzd := hbd.size
      clear hf hg w0 w1 hi hz0 hz1 hz2 hne
      have HF : Hid (∀ i, i < n → wc.cell? ⟨f1, i, none⟩ = some (.int .i64 (F i))) := hf3
      have HG : Hid (∀ i, i < n → wc.cell? ⟨g1, i, none⟩ = some (.int .i64 (G i))) := hg3
      clear hf3 hg3
      go_wp2
      go_loop [14] (fun i => ∃ k : Nat, k ≤ n ∧ i = .int .i64 k ∧ ∀ j, j < k → -70368744177663 ≤ G j ∧ G j ≤ 70368744177663) (fun i => n - (intOf i).toNat)
      case atStart => exact ⟨0, Nat.zero_le _, rfl, fun j hj => absurd hj (by omega)⟩
      case round =>
        obtain ⟨k, hk, rfl, hall⟩ := hrel
        have HALL : Hid _ := hall
        clear hall
        by_cases hlt : k < n
        · have c1 := HG.out k hlt
          by_cases q1 : 70368744177663 < G k
          · go_wp2
            go_ret
            exact ⟨rfl, hbd⟩
          · by_cases q2 : G k < -70368744177663
            · go_wp2
              go_ret
              exact ⟨rfl, hbd⟩
            · go_wp2
              go_round
              case rel =>
                refine ⟨k + 1, by omega, by go_num, fun j hj => ?_⟩
                by_cases e : j = k
                · rw [e]; omega
                · exact HALL.out j (by omega)
              case measure => simp [intOf]; omega
        · have HA : Hid (∀ j, j < n → -70368744177663 ≤ G j ∧ G j ≤ 70368744177663) := fun j (hj : j < n) => HALL.out j (by omega)
          clear HALL
          have HB : Hid (∀ k : Nat, k ≤ n → -(70368744177663 * (k : Int)) ≤ S G k ∧ S G k ≤ 70368744177663 * (k : Int)) := S_bd G 70368744177663 (by omega) n HA.out
          have HFz : Hid (∀ i, i < n → wc.cell? ⟨f1, 0 + i, none⟩ = some (.int .i64 (F i))) := fun i hi => by rw [Nat.zero_add]; exact HF.out i hi
          have HGz : Hid (∀ i, i < n → wc.cell? ⟨g1, 0 + i, none⟩ = some (.int .i64 (G i))) := fun i hi => by rw [Nat.zero_add]; exact HG.out i hi
          have hx : -4611686018427322368 ≤ S G n ∧ S G n ≤ 4611686018427322368 := by have := HB.out n (Nat.le_refl _); omega
          clear HF HG HB
          go_upto_region 33 with fail
          go_cut [22, 23] (fun s t wx => s = .int .i64 (n : Int) ∧ t = .int .i64 (S G n) ∧ Below wc.heap.size wc wx)
          case first =>
            go_region_with (go_at_call 5; refine (zz_max f1 0 g1 0 n n n F G _ (by omega) ?_ ?_ ?_ ?_ ?_).mono ?_; exact hf2; exact hg2; exact fun i hi => HFz.out i (by omega); exact fun i hi => HGz.out i (by omega); exact fun i hi => HA.out i (by omega); rintro e w2 ⟨rfl, hb2⟩)
            all_goals
              go_wp2
              go_meet
              case rel => exact ⟨rfl, rfl, undrew hb2⟩
          case rest =>
          obtain ⟨rfl, rfl, hb2⟩ := hcut
          have hz2 := hb2.size
          have HF2 : Hid (∀ i, i < n → wc.cell? ⟨f1, 0 + i, none⟩ = some (.int .i64 (F i))) := fun i hi => (hb2.cell (by exact hf2)).trans (HFz.out i hi)
          have HG2 : Hid (∀ i, i < n → wc.cell? ⟨g1, 0 + i, none⟩ = some (.int .i64 (G i))) := fun i hi => (hb2.cell (by exact hg2)).trans (HGz.out i hi)
          have hf2' : f1 < wc.heap.size := by omega
          have hg2' : g1 < wc.heap.size := by omega
          have hbd2 := hbd.trans (hb2.mono hzd)
          clear HFz HGz hb2
          go_upto_region 34 with fail
          go_cut [24, 25] (fun s t wx => s = .int .i64 0 ∧ t = .int .i64 0 ∧ Below wc.heap.size wc wx)
          case first =>
            go_region_with (go_at_call 5; refine (zz_nonemax _ _ _ _ _).mono ?_; rintro e w3 ⟨rfl, hb3⟩)
            all_goals
              go_wp2
              go_meet
              case rel => exact ⟨rfl, rfl, undrew hb3⟩
          case rest =>
          obtain ⟨rfl, rfl, hb3⟩ := hcut
          have hz3 := hb3.size
          have HF3 : Hid (∀ i, i < n → wc.cell? ⟨f1, 0 + i, none⟩ = some (.int .i64 (F i))) := fun i hi => (hb3.cell (by exact hf2')).trans (HF2.out i hi)
          have HG3 : Hid (∀ i, i < n → wc.cell? ⟨g1, 0 + i, none⟩ = some (.int .i64 (G i))) := fun i hi => (hb3.cell (by exact hg2')).trans (HG2.out i hi)
          have hf3' : f1 < wc.heap.size := by omega
          have hg3' : g1 < wc.heap.size := by omega
          have hbd3 := hbd2.trans (hb3.mono (Nat.le_trans hzd hz2))
          clear HF2 HG2 hb3
          go_upto_region 35 with fail
          go_cut [26, 27] (fun s t wx => s = .int .i64 (min (n : Int) a3) ∧ t = .int .i64 (min (S G n) a4) ∧ Below wc.heap.size wc wx)
          case first =>
            go_wp2_with (go_at_call 5; refine (zz_pos f1 0 g1 0 n n n a3 a4 F G _ h4 (by omega) ?_ ?_ ?_ ?_ ?_).mono ?_; exact hf3'; exact hg3'; exact fun i hi => HF3.out i (by omega); exact fun i hi => HG3.out i (by omega); exact fun i hi => HA.out i (by omega); rintro e w4 ⟨rfl, hb4⟩)
            go_meet
            case rel => exact ⟨rfl, rfl, hb4⟩
          case rest =>
          obtain ⟨rfl, rfl, hb4⟩ := hcut
          have hz4 := hb4.size
          have hbd4 := hbd3.trans (hb4.mono (Nat.le_trans hzd (Nat.le_trans hz2 hz3)))
          clear HF3 HG3 hb4
          go_wp2_with (go_at_call 6; refine (capmin _ _ _).mono ?_; rintro e w' ⟨rfl, rfl⟩)
          go_ret
          exact ⟨rfl, hbd4⟩

end Go.Proofs.Qxb6623454a
