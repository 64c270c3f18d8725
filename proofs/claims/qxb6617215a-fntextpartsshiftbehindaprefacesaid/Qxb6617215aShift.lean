/-
  THE SECOND LAW.
-/
import Derived.Test.Qxb6617215aPieces
namespace Go.Proofs.Qxb6617215a
open Go.RowKit
set_option linter.unusedVariables false

theorem moved_step {w wr : World} {B gm n k : Nat} {f : Nat → Int} {xs : List Value} {v : Int} (hk : k < n) (hv : v = f k) (hBg : B ≤ gm) (hbel : Below B w wr) (hblk : Blk wr gm 3 xs) (hlen : xs.length = n) (hxs : ∀ j, j < k → xs[j]? = some (.int .i64 (f j))) :
    Below B w (wr.setCell ⟨gm, k, none⟩ (.int .i64 v)) ∧ ∃ ys, Blk (wr.setCell ⟨gm, k, none⟩ (.int .i64 v)) gm 3 ys ∧ ys.length = n ∧ ∀ j, j < k + 1 → ys[j]? = some (.int .i64 (f j)) := by
  refine ⟨hbel.setCell hBg _, _, hblk.set _ _, by simpa using hlen, fun j hj => ?_⟩
  by_cases e : j = k
  · subst e; rw [List.getElem?_set_self (by omega), hv]
  · rw [List.getElem?_set_ne (by omega)]; exact hxs j (by omega)
theorem fills_f {r C : Nat} {s : ByteArray} {L : List Piece} (h : r + fillsP ((s, false) :: L) = C) : r + fillsP L = C := by simpa [fillsP] using h
theorem fills_t {r C : Nat} {s : ByteArray} {L : List Piece} (h : r + fillsP ((s, true) :: L) = C) : r + 1 + fillsP L = C := by simp [fillsP] at h; omega
theorem cnt_end {n len : Nat} {M : Nat → Int} {f i : Nat} (h : ¬ i + 1 < len) : cnt n len M f i = 0 := by
  cases f with
  | zero => rfl
  | succ f => rw [cnt_succ, if_neg h]
theorem cnt_fuel {n len : Nat} {M : Nat → Int} : ∀ {f g i : Nat}, len ≤ i + f → len ≤ i + g → cnt n len M f i = cnt n len M g i := by
  intro f
  induction f with
  | zero => intro g i h1 h2; rw [cnt_end (by omega), cnt_end (by omega)]
  | succ f ih =>
    intro g i h1 h2
    by_cases h : i + 1 < len
    · obtain ⟨g', rfl⟩ : ∃ g', g = g' + 1 := ⟨g - 1, by omega⟩
      rw [cnt_succ, cnt_succ, if_pos h, if_pos h, ih (g := g') (by omega) (by omega)]
    · rw [cnt_end h, cnt_end h]
theorem PAt.keep2 {B : Nat} {w w' : World} {g : Nat} {L : List Piece} {o : Obj} {cap : Nat} (h : PAt w g L) (hg : (w.alloc o).grownBy w' (Value.slice (some ⟨B, 0, none⟩) 0 cap).ownBlock) (hB : g < B) : PAt w' g L := by
  have hs := hg.size
  simp at hs
  have h1 := h.1
  refine ⟨by omega, fun j u hj => ?_⟩
  refine hg.cell (a := ⟨g, j, none⟩) ?_ ?_
  · rw [World.cell?_of_block (w := w) (Below.heap_alloc w o g h1)]
    exact h.2 j u hj
  · intro e
    injection e with e
    have e' : g = B := e
    omega
theorem mine_full {w : World} {B gm n : Nat} {f : Nat → Int} {xs : List Value} (hB : B ≤ gm) (hblk : Blk w gm 3 xs) (hxs : ∀ j, j < n → xs[j]? = some (.int .i64 (f j))) : Mine B w (.slice (some ⟨gm, 0, none⟩) n n) n f :=
  ⟨_, rfl, fun _ => ⟨gm, rfl, hB, hblk.lt, fun i hi => (hblk.cell i).trans (hxs i hi)⟩⟩

set_option maxRecDepth 100000 in
set_option maxHeartbeats 16000000 in
theorem shift_fit (P T : ByteArray) (a2 : Option Addr) (len cap2 : Nat) (z2 : List Int) (w : World) (w2 : IsRow .i64 w a2 len cap2 z2) (hp : P.size ≤ 65536) (hn : T.size ≤ 65536) (hl : len ≤ 65536) (hT : Turn len (fun i => z2.getD i 0)) :
    Calls Try.prog 4 #[.string P, .string T, .slice a2 len cap2] w fun e w' => e = .returned (.bool true) ∧ Below w.heap.size w w' := by
  obtain ⟨i0, hi, hz0, hz1, hz2⟩ := info_parts info3
  obtain ⟨i1, hi1, hy0, hy1, hy2⟩ := info_parts info28
  have hne := fun wx a n c => run_neq_slice_nil_any (P := Try.prog) wx 22 3 a n c 0 0 Try.underlying22
  have HTC : Hid (Calls Try.prog 6 #[.slice a2 len cap2] w fun e w' => e = .returned (.bool true) ∧ Below w.heap.size w w') := turn_yes w2 hl hT
  have HT : Hid (Turn len (fun i => z2.getD i 0)) := hT
  clear hT
  go_enter Try.func4, Try.ntmps4
  go_upto_if 37 with (first | (go_at_call 8; refine (bytes2_yes _ _ _ _ _ _ (by omega)).mono ?_; rintro e w' ⟨rfl, rfl⟩) | (go_at_call 6; refine Calls.mono HTC.out ?_; rintro e w3 ⟨rfl, hb3⟩))
  clear HTC
  have hz33 := hb3.size
  go_cut [2] (fun s1 wc => Mine w.heap.size wc s1 len (fun i => z2.getD i 0) ∧ Below w.heap.size w wc)
  case first =>
    as_aux_lemma =>
      rcases w2 with ⟨rfl, rfl, rfl, rfl⟩ | ⟨x, rfl, h1, h2, h3, h4, h5⟩
      · go_wp2
        go_meet
        case rel => exact ⟨⟨none, rfl, fun h => absurd h (by omega)⟩, hb3⟩
      · obtain ⟨X, hX⟩ : ∃ X, X = (z2.take len).map (Value.int .i64) := ⟨_, rfl⟩
        have hXl : X.length = len := by rw [hX]; simp; omega
        have hXs : ∀ w5, Below w.heap.size w w5 → ∀ j v, X[j]? = some v → w5.cell? (x.add j) = some v := by rw [hX]; intro w5 hb5; exact src_cells (by omega) h4 hb5
        have hX1 : ∀ v ∈ X, v.oneCell' = true := by rw [hX]; exact ints_oneCell _ _
        have HX : Hid (X = (z2.take len).map (Value.int .i64)) := hX
        clear hX h4 h5
        go_wp2_with (first | (at_make; refine wpList_make_full _ rfl _ _ 22 rfl w.heap.size 3 i0 _ 1 Try.underlying22 hi hz0 hz1 .i64 .i64 len len len rfl rfl rfl rfl (by rw [hz2]; omega) (by unfold maxLen; omega) hz33 ?_; intro w5 hown hgr; have hB5 : Below w.heap.size w w5 := hb3.grown hgr hz33 (fun k hk => by cases hk); obtain ⟨b5, bl5, _⟩ := Blk.made hown rfl; clear hown hgr) | (refine wpList_copy_all rfl (.tmp 41) (.tmp 42) 22 22 rfl 3 Try.underlying22 (by kernel_rfl) w3.heap.size len x cap2 rfl rfl _ 3 b5 (by simpa using bl5) X hXl (hXs _ hB5) hX1 w.heap.size w hB5 hz33 ?_; intro w6 HG6 hB7))
        go_meet
        case rel => exact ⟨mine_of_blk hz33 (by omega) (by rw [← HX.out]; exact HG6.out), hB7⟩
  case rest =>
  obtain ⟨⟨g0, rfl, hg⟩, hbc⟩ := hcut
  have hzc := hbc.size
  obtain ⟨M, hM⟩ : ∃ M : Nat → Int, M = fun i => z2.getD i 0 := ⟨_, rfl⟩
  rw [← hM] at HT
  have HMI : Hid (Mine w.heap.size wc (.slice g0 len len) len M) := by rw [hM]; exact ⟨g0, rfl, hg⟩
  obtain ⟨LA, LB, C, FF⟩ := facts P T HT.out
  have HN : Hid (∀ i, i < len → 0 ≤ M i) := HT.out.nonneg
  clear hM hg w2 hne hb3 hz33 HT
  go_upto_block 0 with (at_make; refine wpList_make_full _ rfl _ _ 22 rfl w.heap.size 3 i0 _ 1 Try.underlying22 hi hz0 hz1 .i64 .i64 len len len rfl rfl rfl rfl (by rw [hz2]; omega) (by unfold maxLen; omega) hzc ?_; intro w5 hown hgr; have hB5 : Below wc.heap.size wc w5 := (Below.refl _ _).grown hgr (Nat.le_refl _) (fun k hk => by cases hk); obtain ⟨b5, bl5, _⟩ := Blk.made hown rfl; clear hown hgr)
  generalize (madeCells (Value.int IntKind.i64 0).cells (len * 1)).toList = ys at b5 bl5
  have bl6 : ys.length = len := by omega
  clear bl5
  go_cut [10] (fun s10 wx => Hid (Mine w.heap.size wx (.slice (some ⟨wc.heap.size, 0, none⟩) len len) len (moved P.size T.size M)) ∧ Below wc.heap.size wc wx)
  case first =>
    as_aux_lemma =>
      go_wp2_with fail
      go_loopw [10] (fun s10 wr => ∃ k : Nat, k ≤ len ∧ s10 = .int .i64 k ∧ Below wc.heap.size wc wr ∧ ∃ xs, Blk wr wc.heap.size 3 xs ∧ xs.length = len ∧ ∀ j, j < k → xs[j]? = some (.int .i64 (moved P.size T.size M j))) (fun s10 _ => len - (intOf s10).toNat)
      case atStart => exact ⟨0, Nat.zero_le _, rfl, hB5, ys, b5, bl6, fun j hj => absurd hj (by omega)⟩
      case round =>
        obtain ⟨k, hk, rfl, hbel, xs, hblk, hxl, hxs⟩ := hrel
        by_cases hlt : k < len
        · obtain ⟨g0', hg0, hg⟩ := HMI.out
          injection hg0 with hg0
          subst hg0
          obtain ⟨g1, rfl, hg1, hg2, hg3⟩ := hg (by omega)
          have c1 : wr.cell? ⟨g1, k, none⟩ = some (.int .i64 (M k)) := (hbel.cell (by exact hg2)).trans (hg3 k hlt)
          have m0 := HN.out k hlt
          obtain ⟨u0, hu0⟩ : ∃ u, xs[k]? = some u := ⟨_, List.getElem?_eq_getElem (by omega)⟩
          have d0 := (hblk.cell k).trans hu0
          have f0 := hblk.free k
          clear hg hg3 hu0
          by_cases hm : (T.size : Int) ≤ M k
          · go_wp2
            go_roundw
            case rel => exact ⟨k + 1, by omega, by go_num, moved_step hlt (by unfold moved; rw [if_pos hm]) (Nat.le_refl _) hbel hblk hxl hxs⟩
            case measure => simp [intOf]; omega
          · go_wp2
            go_roundw
            case rel => exact ⟨k + 1, by omega, by go_num, moved_step hlt (by unfold moved; rw [if_neg hm]) (Nat.le_refl _) hbel hblk hxl hxs⟩
            case measure => simp [intOf]; omega
        · obtain rfl : k = len := by omega
          go_wp2
          go_meet
          case rel => exact ⟨mine_full hzc hblk hxs, hbel⟩
  case rest =>
  obtain ⟨HMM, hb6⟩ := hcut
  have hzd := hb6.size
  have hbd := hbc.trans (hb6.mono hzc)
  have HMI2 : Hid (Mine w.heap.size wc (.slice g0 len len) len M) := HMI.out.keep hb6
  clear HMI hbc hb6 b5 bl6 hB5
  have HC1 := pieces_mine T (by omega) hl FF.turn HMI2.out
  rw [← FF.a] at HC1
  have HC1' : Hid _ := HC1
  clear HC1
  go_upto_region 24 with (go_at_call 7; refine Calls.mono HC1'.out ?_; rintro e w7 ⟨ga, ca, rfl, HPA, HCA, hb7⟩)
  clear HC1'
  have hz7 := hb7.size
  have HMI3 : Hid (Mine w.heap.size w7 (.slice g0 len len) len M) := HMI2.out.keep hb7
  have hbe := hbd.trans (hb7.mono (by omega))
  have HC2 := pieces_mine (P ++ T) (by rw [app_size]; omega) hl FF.moved (HMM.out.keep hb7)
  rw [← FF.b] at HC2
  have HC2' : Hid _ := HC2
  clear HC2 HMM HMI2 hb7
  have hadd := fun wx => run_string_add_sum (P := Try.prog) wx P T (by omega)
  go_upto_region 25 with (go_at_call 7; refine Calls.mono HC2'.out ?_; rintro e w8 ⟨gb, cb, rfl, HPB, HCB, hb8⟩)
  clear HC2' hadd
  have hz8 := hb8.size
  have HMI4 : Hid (Mine w.heap.size w8 (.slice g0 len len) len M) := HMI3.out.keep hb8
  have HPA2 : Hid (PAt w8 ga LA) := HPA.out.keep hb8
  have hbf := hbe.trans (hb8.mono (by omega))
  clear HMI3 HPA hb8
  go_upto_block 2 with fail
  go_cut [13, 14] (fun s13 s14 wx => s13 = .int .i64 (C : Int) ∧ w8 = wx)
  case first =>
    have HCC : Hid (C = cnt T.size len M len 0) := FF.c
    have hcl := FF.cl
    have hev := FF.turn.1
    clear FF
    go_wp2_with fail
    go_loop [13, 14] (fun s13 s14 => ∃ k r : Nat, k ≤ len + 1 ∧ r ≤ C ∧ s14 = .int .i64 k ∧ s13 = .int .i64 r ∧ Hid (k ≤ len ∧ k % 2 = 0 ∧ r + cnt T.size len M (len - k) k = C)) (fun _ s14 => len - (intOf s14).toNat)
    case atStart => exact ⟨0, 0, by omega, by omega, rfl, rfl, by omega, rfl, by rw [HCC.out]; simp⟩
    case round =>
      obtain ⟨k, r, hk, hr, rfl, rfl, HI⟩ := hrel
      by_cases hlt : k + 1 < len
      · obtain ⟨g0', hg0, hg⟩ := HMI4.out
        injection hg0 with hg0
        subst hg0
        obtain ⟨g1, rfl, hg1, hg2, hg3⟩ := hg (by omega)
        have c1 : w8.cell? ⟨g1, k, none⟩ = some (.int .i64 (M k)) := hg3 k (by omega)
        have b1 : (k : Int) < (len : Int) := by omega
        clear hg hg3
        have hs : cnt T.size len M (len - k) k = (if M k < (T.size : Int) then 1 else 0) + cnt T.size len M (len - (k + 2)) (k + 2) := by
          rw [cnt_fuel (f := len - k) (g := (len - k - 1) + 1) (i := k) (by omega) (by omega), cnt_succ, if_pos hlt, cnt_fuel (f := len - k - 1) (g := len - (k + 2)) (i := k + 2) (by omega) (by omega)]
        by_cases hm : M k < (T.size : Int)
        · rw [if_pos hm] at hs
          have HS : Hid _ := hs
          have hr1 : r + 1 ≤ C := by have := HI.out.2.2; omega
          clear hs
          go_wp2
          go_round
          case rel => exact ⟨k + 2, r + 1, by omega, by omega, by go_num, by go_num, by omega, by have := HI.out; omega, by have := HI.out.2.2; rw [HS.out] at this; omega⟩
          case measure => simp [intOf]; omega
        · rw [if_neg hm] at hs
          have HS : Hid _ := hs
          clear hs
          go_wp2
          go_round
          case rel => exact ⟨k + 2, r, by omega, by omega, by go_num, by go_num, by omega, by have := HI.out; omega, by have := HI.out.2.2; rw [HS.out] at this; omega⟩
          case measure => simp [intOf]; omega
      · have hrc : r = C := by
          have h1 := HI.out
          rw [cnt_end (by omega)] at h1
          omega
        subst hrc
        go_wp2
        go_meet
        case rel => exact ⟨rfl, rfl⟩
  case rest =>
  obtain ⟨rfl, rfl⟩ := hcut
  go_upto_block 4 with fail
  go_cut [15, 16] (fun s15 s16 wx => s15 = .int .i64 (C : Int) ∧ w8 = wx)
  case first =>
    have HCC : Hid (C = fillsP LA) := FF.f
    have hcl := FF.cl
    have hal := FF.al
    clear FF
    go_wp2_with fail
    go_loop [15, 16] (fun s15 s16 => ∃ k r : Nat, k ≤ LA.length ∧ r ≤ C ∧ s16 = .int .i64 k ∧ s15 = .int .i64 r ∧ Hid (r + fillsP (LA.drop k) = C)) (fun _ s16 => LA.length - (intOf s16).toNat)
    case atStart => exact ⟨0, 0, by omega, by omega, rfl, rfl, by show 0 + fillsP (LA.drop 0) = C; rw [HCC.out]; simp⟩
    case round =>
      obtain ⟨k, r, hk, hr, rfl, rfl, HI⟩ := hrel
      by_cases hlt : k < LA.length
      · obtain ⟨s, f, hs1, hs2⟩ := drop_atP hlt
        obtain ⟨c0, c1⟩ := HPA2.out.get hs1
        have h1 := HI.out
        rw [hs2] at h1
        clear hs1 hs2
        cases f
        · have HS : Hid (r + fillsP (LA.drop (k + 1)) = C) := fills_f h1
          clear h1
          go_wp2
          go_round
          case rel => exact ⟨k + 1, r, by omega, by omega, by go_num, by go_num, HS.out⟩
          case measure => simp [intOf]; omega
        · have HS : Hid (r + 1 + fillsP (LA.drop (k + 1)) = C) := fills_t h1
          have hr1 : r + 1 ≤ C := by have := HS.out; omega
          clear h1
          go_wp2
          go_round
          case rel => exact ⟨k + 1, r + 1, by omega, by omega, by go_num, by go_num, HS.out⟩
          case measure => simp [intOf]; omega
      · have hrc : r = C := by
          have h1 := HI.out
          rw [List.drop_of_length_le (by omega)] at h1
          simpa [fillsP] using h1
        subst hrc
        go_wp2
        go_meet
        case rel => exact ⟨rfl, rfl⟩
  case rest =>
  obtain ⟨rfl, rfl⟩ := hcut
  have hal := FF.al
  have hbl := FF.bl
  have HW : Hid (LB = want P LA) := FF.w
  have HSZ : Hid (∀ x ∈ LA, x.1.size ≤ T.size) := FF.sz
  clear FF HN HMI4
  go_upto_if 123 with (at_make; refine wpList_make_own _ rfl _ _ 25 rfl w8.heap.size 28 i1 _ 2 Try.underlying25 hi1 hy0 hy1 .i64 .i64 _ (LA.length + 1) rfl rfl (by omega) (by rw [hy2]; omega) (by unfold maxLen; omega) (Nat.le_refl _) ?_; intro w9 hown hgr)
  have hb9 : Below w8.heap.size w8 w9 := (Below.refl _ _).grown hgr (Nat.le_refl _) (fun k hk => by cases hk)
  clear hgr
  have hz9 := hb9.size
  have HPA3 : Hid (PAt w9 ga LA) := HPA2.out.keep hb9
  have HGA : Hid (ga < w8.heap.size) := HPA2.out.1
  clear HPA2
  have HNV : Hid (Value.slice (some ⟨w8.heap.size, 0, none⟩) 0 (LA.length + 1) ≠ Value.slice none 0 0) := by intro h; cases h
  go_cut [11, 17] (fun s11 s17 wx => s11 = .slice (some ⟨ga, 0, none⟩) LA.length ca ∧ ∃ g cap, s17 = .slice (some ⟨g, 0, none⟩) LB.length cap ∧ Hid (PAt wx g LB) ∧ Below w8.heap.size w8 wx)
  case first =>
    by_cases hP : P.size = 0
    · have HLB : Hid (LB = LA) := by show LB = LA; rw [HW.out, want_empty hP]
      rw [empty_yes hP]
      clear hP
      go_wp2_with (at_builtin; refine wpList_append_own _ rfl (.tmp 124) (.tmp 125) 25 rfl w8.heap.size 28 i1 _ 2 24 Try.underlying25 hi1 hy0 hy1 hy2 rfl (by decide) _ 0 [] rfl hown ⟨ga, 0, none⟩ LA.length ca (cellsP LA) rfl (length_cellsP _) HPA3.out.news (cellsP_one _) (by unfold maxLen; omega) (by omega) hz9 ?_; intro v3 w10 hown3 hgr3 hnil3; have hp3 : Below w8.heap.size w8 w10 := hb9.grown hgr3 hz9 (fun k hk => (hown.lt k hk).1); have hnn3 : Hid (v3 ≠ .slice none 0 0) := (fun h => HNV.out (hnil3.1 h).1); clear hgr3 hnil3)
      go_meet
      case rel =>
        obtain ⟨g, cap, rfl, hpa⟩ := row_final (L := LB) hown3 hnn3.out (by rw [HLB.out]; omega) (by rw [HLB.out]; rfl)
        exact ⟨rfl, g, cap, rfl, hpa, hp3⟩
    · rw [empty_no hP]
      have HP0 : Hid (¬ P.size = 0) := hP
      clear hP
      obtain ⟨LA', hLA'⟩ : ∃ x, x = LA := ⟨_, rfl⟩
      rcases LA' with _ | ⟨⟨t, f⟩, r⟩
      · have HLA : Hid (LA = []) := hLA'.symm
        clear hLA'
        have HLB : Hid (LB = (P, false) :: LA) := by show LB = (P, false) :: LA; rw [HW.out, HLA.out, want_nil HP0.out]
        have hla0 : ¬ 0 < LA.length := by rw [HLA.out]; simp
        have d1 : decide ((0 : Int) < (LA.length : Int)) = false := decide_eq_false (by omega)
        go_wp2_with (first | (at_builtin; refine wpList_append_own _ rfl (.tmp 151) (.tmp 154) 25 rfl w8.heap.size 28 i1 _ 2 24 Try.underlying25 hi1 hy0 hy1 hy2 rfl (by decide) _ 0 [] rfl (hown.alloc _) ⟨w9.heap.size, 0, none⟩ 1 1 [.string P, .bool false] rfl rfl (cell_two_new _ _ _ _) (two_oneCell _ _) (by unfold maxLen; omega) (by omega) (by simp; omega) ?_; intro v3 w10 hown3 hgr3 hnil3; obtain ⟨hp3, hz10⟩ := push_below hb9 hz9 hown hgr3; have hnn3 : Hid (v3 ≠ .slice none 0 0) := (fun h => HNV.out (hnil3.1 h).1); have HPA4 : Hid (PAt w10 ga LA) := PAt.keep2 HPA3.out hgr3 HGA.out; clear hgr3 hnil3) | (at_builtin; refine wpList_append_own _ rfl (.tmp 156) (.tmp 157) 25 rfl w8.heap.size 28 i1 _ 2 24 Try.underlying25 hi1 hy0 hy1 hy2 rfl (by decide) v3 (0 + 1) ([] ++ [.string P, .bool false]) rfl hown3 ⟨ga, 0, none⟩ LA.length ca (cellsP LA) rfl (length_cellsP _) HPA4.out.news (cellsP_one _) (by unfold maxLen; omega) (by omega) hz10 ?_; intro v4 w11 hown4 hgr4 hnil4; have hp4 : Below w8.heap.size w8 w11 := hp3.grown hgr4 hz10 (fun k hk => (hown3.lt k hk).1); have hnn4 : Hid (v4 ≠ .slice none 0 0) := (fun h => hnn3.out (hnil4.1 h).1); clear hgr4 hnil4))
        go_meet
        case rel =>
          obtain ⟨g, cap, rfl, hpa⟩ := row_final (L := LB) hown4 hnn4.out (by rw [HLB.out]; simp; omega) (by rw [HLB.out]; rfl)
          exact ⟨rfl, g, cap, rfl, hpa, hp4⟩
      · have HLA : Hid (LA = (t, f) :: r) := hLA'.symm
        clear hLA'
        cases f
        · have HLB : Hid (LB = (P ++ t, false) :: r) := by show LB = (P ++ t, false) :: r; rw [HW.out, HLA.out, want_plain HP0.out]
          have hlr : LA.length = r.length + 1 := by rw [HLA.out]; rfl
          have HLR : Hid (LA.length = r.length + 1) := hlr
          have hla1 : 1 ≤ LA.length := by omega
          have hla2 : 0 < LA.length := by omega
          clear hlr
          obtain ⟨c0, c1⟩ := HPA3.out.get (j := 0) (s := t) (f := false) (by rw [HLA.out]; rfl)
          have hts : t.size ≤ T.size := HSZ.out (t, false) (by rw [HLA.out]; simp)
          have hadd := fun wx => run_string_add_sum (P := Try.prog) wx P t (by omega)
          by_cases hca : ca = 1
          · have hca2 : LA.length ≤ 1 := by have := HCA.out; omega
            go_wp2_with (first | (at_builtin; refine wpList_append_own _ rfl (.tmp 137) (.tmp 145) 25 rfl w8.heap.size 28 i1 _ 2 24 Try.underlying25 hi1 hy0 hy1 hy2 rfl (by decide) _ 0 [] rfl (hown.alloc _) ⟨w9.heap.size, 0, none⟩ 1 1 [.string (P ++ t), .bool false] rfl rfl (cell_two_new _ _ _ _) (two_oneCell _ _) (by unfold maxLen; omega) (by omega) (by simp; omega) ?_; intro v3 w10 hown3 hgr3 hnil3; obtain ⟨hp3, hz10⟩ := push_below hb9 hz9 hown hgr3; have hnn3 : Hid (v3 ≠ .slice none 0 0) := (fun h => HNV.out (hnil3.1 h).1); have HPA4 : Hid (PAt w10 ga LA) := PAt.keep2 HPA3.out hgr3 HGA.out; clear hgr3 hnil3) | (at_builtin; refine wpList_append_own _ rfl (.tmp 147) (.tmp 149) 25 rfl w8.heap.size 28 i1 _ 2 24 Try.underlying25 hi1 hy0 hy1 hy2 rfl (by decide) v3 (0 + 1) ([] ++ [.string (P ++ t), .bool false]) rfl hown3 ⟨ga, 0, none⟩ _ _ (cellsP r) rfl (by rw [length_cellsP]; have := HLR.out; omega) (fun j u hj => absurd hj (by have hr0 : r = [] := List.eq_nil_of_length_eq_zero (by have := HLR.out; have := HCA.out; omega); rw [hr0]; simp [cellsP])) (cellsP_one _) (by unfold maxLen; omega) (by omega) hz10 ?_; intro v4 w11 hown4 hgr4 hnil4; have hp4 : Below w8.heap.size w8 w11 := hp3.grown hgr4 hz10 (fun k hk => (hown3.lt k hk).1); have hnn4 : Hid (v4 ≠ .slice none 0 0) := (fun h => hnn3.out (hnil4.1 h).1); clear hgr4 hnil4))
            go_meet
            case rel =>
              obtain ⟨g, cap, rfl, hpa⟩ := row_final (L := LB) hown4 hnn4.out (by rw [HLB.out, List.length_cons]; have := HLR.out; omega) (by rw [HLB.out]; rfl)
              exact ⟨by rw [hca], g, cap, rfl, hpa, hp4⟩
          · go_wp2_with (first | (at_builtin; refine wpList_append_own _ rfl (.tmp 137) (.tmp 145) 25 rfl w8.heap.size 28 i1 _ 2 24 Try.underlying25 hi1 hy0 hy1 hy2 rfl (by decide) _ 0 [] rfl (hown.alloc _) ⟨w9.heap.size, 0, none⟩ 1 1 [.string (P ++ t), .bool false] rfl rfl (cell_two_new _ _ _ _) (two_oneCell _ _) (by unfold maxLen; omega) (by omega) (by simp; omega) ?_; intro v3 w10 hown3 hgr3 hnil3; obtain ⟨hp3, hz10⟩ := push_below hb9 hz9 hown hgr3; have hnn3 : Hid (v3 ≠ .slice none 0 0) := (fun h => HNV.out (hnil3.1 h).1); have HPA4 : Hid (PAt w10 ga LA) := PAt.keep2 HPA3.out hgr3 HGA.out; clear hgr3 hnil3) | (at_builtin; refine wpList_append_own _ rfl (.tmp 147) (.tmp 149) 25 rfl w8.heap.size 28 i1 _ 2 24 Try.underlying25 hi1 hy0 hy1 hy2 rfl (by decide) v3 (0 + 1) ([] ++ [.string (P ++ t), .bool false]) rfl hown3 ⟨ga, 2, none⟩ (LA.length - 1) (ca - 1) (cellsP r) rfl (by rw [length_cellsP]; have := HLR.out; omega) (PAt.news2 (x := (t, false)) (by rw [← HLA.out]; exact HPA4.out)) (cellsP_one _) (by unfold maxLen; omega) (by omega) hz10 ?_; intro v4 w11 hown4 hgr4 hnil4; have hp4 : Below w8.heap.size w8 w11 := hp3.grown hgr4 hz10 (fun k hk => (hown3.lt k hk).1); have hnn4 : Hid (v4 ≠ .slice none 0 0) := (fun h => hnn3.out (hnil4.1 h).1); clear hgr4 hnil4))
            go_meet
            case rel =>
              obtain ⟨g, cap, rfl, hpa⟩ := row_final (L := LB) hown4 hnn4.out (by rw [HLB.out, List.length_cons]; have := HLR.out; omega) (by rw [HLB.out]; rfl)
              exact ⟨rfl, g, cap, rfl, hpa, hp4⟩
        · have HLB : Hid (LB = (P, false) :: LA) := by show LB = (P, false) :: LA; rw [HW.out, HLA.out, want_filled HP0.out]
          have hla2 : 0 < LA.length := by rw [HLA.out]; simp
          obtain ⟨c0, c1⟩ := HPA3.out.get (j := 0) (s := t) (f := true) (by rw [HLA.out]; rfl)
          go_wp2_with (first | (at_builtin; refine wpList_append_own _ rfl (.tmp 151) (.tmp 154) 25 rfl w8.heap.size 28 i1 _ 2 24 Try.underlying25 hi1 hy0 hy1 hy2 rfl (by decide) _ 0 [] rfl (hown.alloc _) ⟨w9.heap.size, 0, none⟩ 1 1 [.string P, .bool false] rfl rfl (cell_two_new _ _ _ _) (two_oneCell _ _) (by unfold maxLen; omega) (by omega) (by simp; omega) ?_; intro v3 w10 hown3 hgr3 hnil3; obtain ⟨hp3, hz10⟩ := push_below hb9 hz9 hown hgr3; have hnn3 : Hid (v3 ≠ .slice none 0 0) := (fun h => HNV.out (hnil3.1 h).1); have HPA4 : Hid (PAt w10 ga LA) := PAt.keep2 HPA3.out hgr3 HGA.out; clear hgr3 hnil3) | (at_builtin; refine wpList_append_own _ rfl (.tmp 156) (.tmp 157) 25 rfl w8.heap.size 28 i1 _ 2 24 Try.underlying25 hi1 hy0 hy1 hy2 rfl (by decide) v3 (0 + 1) ([] ++ [.string P, .bool false]) rfl hown3 ⟨ga, 0, none⟩ LA.length ca (cellsP LA) rfl (length_cellsP _) HPA4.out.news (cellsP_one _) (by unfold maxLen; omega) (by omega) hz10 ?_; intro v4 w11 hown4 hgr4 hnil4; have hp4 : Below w8.heap.size w8 w11 := hp3.grown hgr4 hz10 (fun k hk => (hown3.lt k hk).1); have hnn4 : Hid (v4 ≠ .slice none 0 0) := (fun h => hnn3.out (hnil4.1 h).1); clear hgr4 hnil4))
          go_meet
          case rel =>
            obtain ⟨g, cap, rfl, hpa⟩ := row_final (L := LB) hown4 hnn4.out (by rw [HLB.out]; simp; omega) (by rw [HLB.out]; rfl)
            exact ⟨rfl, g, cap, rfl, hpa, hp4⟩
  case rest =>
  obtain ⟨rfl, gw, cw, rfl, HPW, hb11⟩ := hcut
  have HPB2 : Hid (PAt wc gb LB) := HPB.out.keep hb11
  have hbg := hbf.trans (hb11.mono (by omega))
  clear HPB hb11 hown hb9 HPA3 HW HSZ HNV
  go_wp2_with fail
  go_loopw [18] (fun s18 wr => ∃ j : Nat, j ≤ LB.length ∧ s18 = .int .i64 j ∧ ∃ q, wr = wc.drewN q) (fun s18 _ => LB.length - (intOf s18).toNat)
  case atStart => exact ⟨0, Nat.zero_le _, rfl, 0, rfl⟩
  case round =>
    obtain ⟨j, hj, rfl, q, rfl⟩ := hrel
    by_cases hlt : j < LB.length
    · obtain ⟨s, f, hs1, hs2⟩ := drop_atP hlt
      obtain ⟨c0, c1⟩ := HPB2.out.get hs1
      obtain ⟨c2, c3⟩ := HPW.out.get hs1
      have b1 : (j : Int) < (LB.length : Int) := by omega
      clear hs1 hs2
      go_wp2
      go_quiet (fail)
      go_wp2
      go_roundw
      case rel => exact ⟨j + 1, by omega, by go_num, _, rfl⟩
      case measure => simp [intOf]; omega
    · go_wp2
      go_ret
      exact ⟨rfl, below_drewN' hbg _⟩

end Go.Proofs.Qxb6617215a
