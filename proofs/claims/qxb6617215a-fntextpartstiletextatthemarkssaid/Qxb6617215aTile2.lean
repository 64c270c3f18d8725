/-
  THE FIRST LAW, every case.
-/
import Derived.Test.Qxb6617215aTile
namespace Go.Proofs.Qxb6617215a
open Go.RowKit
set_option linter.unusedVariables false


set_option maxRecDepth 100000 in
set_option maxHeartbeats 8000000 in
theorem tile_nil (T : ByteArray) (a1 : Option Addr) (len cap1 : Nat) (z1 : List Int) (w : World) (w1 : IsRow .i64 w a1 len cap1 z1) (hn : T.size ≤ 65536) (hl : len ≤ 65536) (hT : Turn len (fun i => z1.getD i 0)) (hl0 : ¬ 0 < len) :
    Calls Try.prog 3 #[.string T, .slice a1 len cap1] w fun e w' => e = .returned (.bool true) ∧ Below w.heap.size w w' := by
  obtain ⟨i0, hi, hz0, hz1, hz2⟩ := info_parts info3
  have hne := fun wx a n c => run_neq_slice_nil_any (P := Try.prog) wx 22 3 a n c 0 0 Try.underlying22
  have HTC : Hid (Calls Try.prog 6 #[.slice a1 len cap1] w fun e w' => e = .returned (.bool true) ∧ Below w.heap.size w w') := turn_yes w1 hl hT
  have HT : Hid (Turn len (fun i => z1.getD i 0)) := hT
  clear hT
  go_enter Try.func3, Try.ntmps3
  go_upto_if 28 with (first | (go_at_call 5; refine (bytes1_yes _ _ _ _ _ (by omega)).mono ?_; rintro e w' ⟨rfl, rfl⟩) | (go_at_call 6; refine Calls.mono HTC.out ?_; rintro e w2 ⟨rfl, hb2⟩))
  clear HTC
  have hz22 := hb2.size
  go_cut [1] (fun s1 wc => Mine w.heap.size wc s1 len (fun i => z1.getD i 0) ∧ Below w.heap.size w wc)
  case first =>
    rcases w1 with ⟨rfl, rfl, rfl, rfl⟩ | ⟨x, rfl, h1, h2, h3, h4, h5⟩
    · go_wp2
      go_meet
      case rel => exact ⟨⟨none, rfl, fun h => absurd h (by omega)⟩, hb2⟩
    · obtain ⟨X, hX⟩ : ∃ X, X = (z1.take len).map (Value.int .i64) := ⟨_, rfl⟩
      have hXl : X.length = len := by rw [hX]; simp; omega
      have hXs : ∀ w5, Below w.heap.size w w5 → ∀ j v, X[j]? = some v → w5.cell? (x.add j) = some v := by rw [hX]; intro w5 hb5; exact src_cells (by omega) h4 hb5
      have hX1 : ∀ v ∈ X, v.oneCell' = true := by rw [hX]; exact ints_oneCell _ _
      have HX : Hid (X = (z1.take len).map (Value.int .i64)) := hX
      clear hX h4 h5
      go_wp2_with (first | (at_make; refine wpList_make_full _ rfl _ _ 22 rfl w.heap.size 3 i0 _ 1 Try.underlying22 hi hz0 hz1 .i64 .i64 len len len rfl rfl rfl rfl (by rw [hz2]; omega) (by unfold maxLen; omega) hz22 ?_; intro w5 hown hgr; have hB5 : Below w.heap.size w w5 := hb2.grown hgr hz22 (fun k hk => by cases hk); obtain ⟨b5, bl5, _⟩ := Blk.made hown rfl; clear hown hgr) | (refine wpList_copy_all rfl (.tmp 32) (.tmp 33) 22 22 rfl 3 Try.underlying22 (by kernel_rfl) w2.heap.size len x cap1 rfl rfl _ 3 b5 (by simpa using bl5) X hXl (hXs _ hB5) hX1 w.heap.size w hB5 hz22 ?_; intro w6 HG6 hB7))
      go_meet
      case rel => exact ⟨mine_of_blk hz22 (by omega) (by rw [← HX.out]; exact HG6.out), hB7⟩
  case rest =>
    obtain ⟨⟨g0, rfl, hg⟩, hbc⟩ := hcut
    have hzc := hbc.size
    obtain ⟨M, hM⟩ : ∃ M : Nat → Int, M = fun i => z1.getD i 0 := ⟨_, rfl⟩
    rw [← hM] at HT
    have HMI : Hid (Mine w.heap.size wc (.slice g0 len len) len M) := by rw [hM]; exact ⟨g0, rfl, hg⟩
    clear hM hg w1 hi hz0 hz1 hz2 hne hb2 hz22
    obtain ⟨R, hR⟩ : ∃ R, R = tp T.size len M len 0 0 := ⟨_, rfl⟩
    have HCT := zzparts_mine T (by omega) hl HT.out HMI.out
    rw [← hR] at HCT
    have HOK : Hid (Ok T.size len M R 0 0 false) := by rw [hR]; exact ok_tp HT.out len 0 0 (by omega) rfl (by omega) (fun h => by have := HT.out.2.1 h; omega)
    have HRL : Hid (R.length ≤ 65537) := by rw [hR]; exact Nat.le_trans (length_tp len 0 0 (by omega) (by omega) HT.out.1 rfl) (by omega)
    have HCT2 : Hid _ := HCT
    clear HCT hR
    go_upto_region 14 with (go_at_call 7; refine Calls.mono HCT2.out ?_; rintro e w7 ⟨g, cap, rfl, HL, _, hb7⟩)
    clear HCT2
    have hbd := hbc.trans (hb7.mono hzc)
    have hrl := HRL.out
    clear HMI hb7
    go_wp2
    go_loop [8, 9, 10, 11] (fun s8 s9 s10 s11 => ∃ j k off : Nat, j ≤ R.length ∧ k ≤ len ∧ off ≤ T.size ∧ s8 = .int .i64 k ∧ s9 = .int .i64 off ∧ s11 = .int .i64 j ∧ OkAt T.size len M R j k off s10) (fun _ _ _ s11 => R.length - (intOf s11).toNat)
    case atStart => exact ⟨0, 0, 0, Nat.zero_le _, Nat.zero_le _, Nat.zero_le _, rfl, rfl, rfl, OkAt.intro HOK.out⟩
    case round =>
      obtain ⟨j, k, off, hj, hk, hoff, rfl, rfl, rfl, p, rfl, hok⟩ := hrel
      by_cases hlt : j < R.length
      · obtain ⟨a, b, f, hRj, hdr⟩ := drop_at hlt
        obtain ⟨c1, c2⟩ := HL.out.2.2 j a b f hRj
        rw [hdr] at hok
        clear hdr hRj
        cases f
        · obtain ⟨rfl, o2, o3, rfl, o5⟩ := hok
          have HO : Hid (Ok T.size len M (R.drop (j + 1)) k b true) := o5
          clear o5
          obtain ⟨m, rfl⟩ : ∃ m, b = a + m := ⟨b - a, by omega⟩
          have hsz : (T.extract a (a + m)).size = m := size_cut (by omega)
          have hne0 : (T.extract a (a + m)).toList.isEmpty = false := nonempty_cut (by omega) (by omega)
          go_wp2
          go_round
          case rel => exact ⟨j + 1, k, a + m, by omega, hk, by omega, rfl, by go_num, by go_num, OkAt.intro HO.out⟩
          case measure => simp [intOf]; omega
        · obtain ⟨rfl, o2, o3, o4, o5, o6, o7, o8⟩ := hok
          exact absurd o4 (by omega)
      · obtain rfl : j = R.length := by omega
        rw [List.drop_length] at hok
        obtain ⟨rfl, o2⟩ := hok
        go_wp2
        go_ret
        exact ⟨rfl, hbd⟩

set_option maxRecDepth 100000 in
set_option maxHeartbeats 2000000 in
theorem tile_any (T : ByteArray) (a1 : Option Addr) (len cap1 : Nat) (z1 : List Int) (w : World) (w0 : T.size ≤ maxLen) (w1 : IsRow .i64 w a1 len cap1 z1) :
    Calls Try.prog 3 #[.string T, .slice a1 len cap1] w fun e w' => e = .returned (.bool true) ∧ Below w.heap.size w w' := by
  by_cases hfit : T.size + len ≤ 1048576
  · by_cases hn : T.size ≤ 65536
    · by_cases hl : len ≤ 65536
      · by_cases hT : Turn len (fun i => z1.getD i 0)
        · by_cases hl0 : 0 < len
          · exact tile_pos T a1 len cap1 z1 w w1 hn hl hT hl0
          · exact tile_nil T a1 len cap1 z1 w w1 hn hl hT hl0
        · have HTC : Hid (Calls Try.prog 6 #[.slice a1 len cap1] w fun e w' => e = .returned (.bool false) ∧ Below w.heap.size w w') := turn_no w1 hl hT
          clear hT w1
          go_enter Try.func3, Try.ntmps3
          go_wp2_with (first | (go_at_call 5; refine (bytes1_yes _ _ _ _ _ hfit).mono ?_; rintro e w' ⟨rfl, rfl⟩) | (go_at_call 6; refine Calls.mono HTC.out ?_; rintro e w2 ⟨rfl, hb2⟩))
          go_ret
          exact ⟨rfl, hb2⟩
      · clear w1
        go_enter Try.func3, Try.ntmps3
        go_wp2_with (go_at_call 5; refine (bytes1_yes _ _ _ _ _ hfit).mono ?_; rintro e w' ⟨rfl, rfl⟩)
        go_ret
        exact ⟨rfl, Below.refl _ _⟩
    · clear w1
      go_enter Try.func3, Try.ntmps3
      go_wp2_with (go_at_call 5; refine (bytes1_yes _ _ _ _ _ hfit).mono ?_; rintro e w' ⟨rfl, rfl⟩)
      go_ret
      exact ⟨rfl, Below.refl _ _⟩
  · have h1 := w1.len_le
    clear w1
    go_enter Try.func3, Try.ntmps3
    go_wp2_with (go_at_call 5; refine (bytes1_no _ _ _ _ _ w0 h1 hfit).mono ?_; rintro e w' ⟨rfl, rfl⟩)
    go_ret
    exact ⟨rfl, Below.refl _ _⟩
end Go.Proofs.Qxb6617215a
