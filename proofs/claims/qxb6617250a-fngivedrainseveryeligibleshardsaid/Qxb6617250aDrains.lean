/-
  THE LAW 'FnGiveDrainsEveryEligibleShard': THE WALK.
-/
import Derived.Test.Qxb6617250aGive
import Derived.Test.Qxb6617250aClone
import Derived.Test.Qxb6617250aFit
import Derived.Test.Qxb6617250aBytes
import Derived.Deep.DeepCutAuto
import Derived.Deep.CutBlock
import Derived.Deep.RegionWith
namespace Go.Proofs.Qxb6617250a
open Go.RowKit
set_option linter.unusedVariables false

set_option maxRecDepth 100000 in
set_option maxHeartbeats 8000000 in
theorem drains_any (x : Value) (L : List (List ByteArray)) (d e' : ByteArray) (w : World) (h : SSR w x L) :
    Calls Try.prog 3 #[x, .string d, .string e'] w fun e w' => e = .returned (.bool true) ∧ Below w.heap.size w w' := by
  have HX : Hid (SSR w x L) := h
  obtain ⟨a, cap, rfl, h'⟩ := h
  clear h'
  obtain ⟨i0, hi, hz0, hz1, hz2⟩ := info_parts info26
  go_enter Try.func3, Try.ntmps3
  go_upto_if 18 with (go_at_call 6; refine (bytes6_any _ L d e' w HX.out).mono ?_; rintro e w' ⟨⟨r, rfl, _⟩, rfl⟩)
  cases r with
  | false =>
    go_wp2
    go_ret
    exact ⟨rfl, Below.refl _ _⟩
  | true =>
  by_cases h1 : ¬ L.length ≤ 65536
  · go_wp2
    go_ret
    exact ⟨rfl, Below.refl _ _⟩
  have h2 : L.length ≤ 65536 := by omega
  clear h1
  have h1 : L.length ≤ 65536 := h2
  clear h2
  go_upto_if 26 with (go_at_call 7; refine (fit_any _ L d e' w HX.out).mono ?_; rintro e w' ⟨⟨r, rfl, hF⟩, rfl⟩)
  cases r with
  | false =>
    go_wp2
    go_ret
    exact ⟨rfl, Below.refl _ _⟩
  | true =>
  have HS : Hid (∀ R ∈ L, R.length ≤ 65536) := hF rfl
  clear hF
  go_upto_region 8 with (go_at_call 8; refine (clone_any _ L w HX.out h1 HS.out).mono ?_; rintro e w1 ⟨u1, rfl, HO1, hb1⟩; obtain ⟨a1, rfl⟩ := HO1.out.shape)
  go_upto_region 9 with (go_at_call 8; refine (clone_any _ L w1 HO1.out.ssr h1 HS.out).mono ?_; rintro e w2 ⟨u2, rfl, HO2, hb2⟩; obtain ⟨a2, rfl⟩ := HO2.out.shape)
  clear HX
  go_upto_block 0 with (at_make; refine wpList_make_full _ rfl _ _ 22 rfl w2.heap.size 26 i0 _ 1 Try.underlying22 hi hz0 hz1 .i64 .i64 L.length L.length L.length rfl rfl rfl rfl (by rw [hz2]; omega) (by unfold maxLen; omega) (Nat.le_refl _) ?_; intro w3 hown hgr; have hb3 : Below w2.heap.size w2 w3 := (Below.refl _ _).grown hgr (Nat.le_refl _) (fun k hk => by cases hk); have hm3 := made_rows hown; clear hown hgr)
  have HW0 : Hid (WantAt w1.heap.size w3 w2.heap.size d e' L 0) := WantAt.zero hm3
  clear hm3
  go_cut [9] (fun s9 wx => s9 = .int .i64 (nEl d e' L : Nat) ∧ Below w2.heap.size w2 wx ∧ Hid (SSRC w1.heap.size wx (.slice (some ⟨w2.heap.size, 0, none⟩) L.length L.length) (L.map (wn d e'))))
  case first =>
    go_wp2_with fail
    go_loopw [9, 10] (fun s9 s10 wr => ∃ k c : Nat, k ≤ L.length ∧ c ≤ k ∧ s10 = .int .i64 k ∧ s9 = .int .i64 c ∧ Hid (c = nEl d e' (L.take k)) ∧ Below w2.heap.size w2 wr ∧ Hid (WantAt w1.heap.size wr w2.heap.size d e' L k)) (fun _ s10 _ => L.length - (intOf s10).toNat)
    case atStart => exact ⟨0, 0, Nat.zero_le _, Nat.le_refl _, rfl, rfl, rfl, hb3, HW0.out⟩
    case round =>
      clear HW0 hb3
      obtain ⟨k, c, hk, hck, rfl, rfl, HN, hbel, HW⟩ := hrel
      have hzz := hbel.size
      by_cases hlt : k < L.length
      · obtain ⟨R, hR⟩ := at_of_lt hlt
        have HR : Hid (L[k]? = some R) := hR
        obtain ⟨b, off, ra, rcap, rfl, hb', c1, hsr⟩ := (HO2.out.ssr.keep hbel).at hR
        have hRl : R.length ≤ 65536 := HS.out R (List.mem_of_getElem? hR)
        have HSR : Hid (SR wr (.slice ra R.length rcap) R) := hsr
        have HSC : Hid (SRC w1.heap.size wr (.slice ra R.length rcap) R) := by
          obtain ⟨b', off', ra', rcap', q1, q2, q3, q4⟩ := (HO2.out.ssrc.keep (Up.of_below hbel)).at hR
          cases q1
          rw [c1] at q3
          cases q3
          exact q4
        have hRl2 : R.length ≤ 1048576 := by omega
        obtain ⟨v0, d0, f0⟩ := HW.out.old hlt
        have HNX := nEl_next (d := d) (e := e') hR
        by_cases q1 : 0 < cntS d R
        · by_cases q2 : cntS e' R = 0
          · have hel : el d e' R = true := el_iff.2 ⟨by omega, by omega⟩
            have HNN : Hid (c + 1 = nEl d e' (L.take (k + 1))) := by show _ = _; rw [HNX, if_pos hel, ← HN.out]
            have HWG := fun (w4 : World) (R4 : List ByteArray) (u4 : Value) => want_given (w4 := w4) (R4 := R4) (u4 := u4) HW.out hR hel
            have HWG' : Hid _ := HWG
            have HC0 : w1.heap.size ≤ wr.heap.size := Nat.le_trans hb2.size hzz
            clear HNX HWG hR hsr hel d0 f0
            go_wp2_with (first | (go_at_call 9; refine (count_any _ R _ wr HSR.out hRl2).mono ?_; rintro e w' ⟨rfl, rfl⟩) | (go_at_call 10; refine (expect_any _ R d e' wr HSR.out hRl).mono ?_; rintro e w4 ⟨R4, u4, rfl, HR4, hb4⟩; obtain ⟨a4, n4, c4, v4, rfl, d4, f4, HW4⟩ := HWG'.out w4 R4 u4 HR4.out hb4 HC0))
            go_roundw
            case rel => exact ⟨k + 1, c + 1, by omega, by omega, by go_num, by go_num, HNN.out, (hbel.trans (hb4.mono hzz)).setCell (Nat.le_refl _) _, HW4.out⟩
            case measure => simp [intOf]; omega
          · have hel : el d e' R = false := el_no.2 (by omega)
            have HNN : Hid (c = nEl d e' (L.take (k + 1))) := by show _ = _; rw [HNX, hel, ← HN.out]; rfl
            have HW4 : Hid _ := HW.out.put hR (by rw [wn_no hel]; exact HSC.out)
            clear HNX hR hsr hel
            go_wp2_with (go_at_call 9; refine (count_any _ R _ wr HSR.out hRl2).mono ?_; rintro e w' ⟨rfl, rfl⟩)
            go_roundw
            case rel => exact ⟨k + 1, c, by omega, by omega, by go_num, rfl, HNN.out, hbel.setCell (Nat.le_refl _) _, HW4.out⟩
            case measure => simp [intOf]; omega
        · have hel : el d e' R = false := el_no.2 (by omega)
          have HNN : Hid (c = nEl d e' (L.take (k + 1))) := by show _ = _; rw [HNX, hel, ← HN.out]; rfl
          have HW4 : Hid _ := HW.out.put hR (by rw [wn_no hel]; exact HSC.out)
          clear HNX hR hsr hel
          go_wp2_with (go_at_call 9; refine (count_any _ R _ wr HSR.out hRl2).mono ?_; rintro e w' ⟨rfl, rfl⟩)
          go_roundw
          case rel => exact ⟨k + 1, c, by omega, by omega, by go_num, rfl, HNN.out, hbel.setCell (Nat.le_refl _) _, HW4.out⟩
          case measure => simp [intOf]; omega
      · have HF : Hid (SSRC w1.heap.size wr (.slice (some ⟨w2.heap.size, 0, none⟩) L.length L.length) (L.map (wn d e'))) := HW.out.done (by omega) hb2.size
        obtain rfl : c = nEl d e' L := by
          have := HN.out
          rw [List.take_of_length_le (by omega)] at this
          exact this
        clear HW HN
        go_wp2
        go_meet
        case rel => exact ⟨rfl, hbel, HF.out⟩
  case rest =>
    obtain ⟨rfl, hb4, HW⟩ := hcut
    have HO : Hid (Own w.heap.size w1.heap.size wc (.slice a1 L.length L.length) L) := HO1.out.keep (fun b hb => ((hb4.block b (Nat.lt_of_lt_of_le hb hb2.size)).trans (hb2.block b hb)))
    have hbw : Below w.heap.size w wc := hb1.trans ((hb2.trans (hb4.mono hb2.size)).mono hb1.size)
    have hC : w1.heap.size ≤ wc.heap.size := Nat.le_trans hb2.size hb4.size
    have hnl : nEl d e' L ≤ L.length := nEl_le d e' L
    obtain ⟨N, hN⟩ : ∃ N, N = nEl d e' L := ⟨_, rfl⟩
    rw [← hN] at hnl ⊢
    have HN : Hid (N = nEl d e' L) := hN
    clear hN HO1 HO2 HW0 hb3 hb4
    go_upto_block 2 with fail
    go_cut [11] (fun s11 wx => s11 = .int .i64 (N : Nat) ∧ Below w.heap.size w wx ∧ Hid (Own w.heap.size w1.heap.size wx (.slice a1 L.length L.length) (L.map (wn d e'))) ∧ Hid (SSRC w1.heap.size wx (.slice (some ⟨w2.heap.size, 0, none⟩) L.length L.length) (L.map (wn d e'))))
    case first =>
      go_wp2_with fail
      go_loopw [11, 12] (fun s11 s12 wr => ∃ t : Nat, t ≤ L.length ∧ s12 = .int .i64 t ∧ s11 = .int .i64 t ∧ Below w.heap.size w wr ∧ Hid (∃ L', Own w.heap.size w1.heap.size wr (.slice a1 L.length L.length) L' ∧ nEl d e' L' + t = N ∧ L'.map (wn d e') = L.map (wn d e') ∧ L'.length = L.length ∧ (∀ R ∈ L', R.length ≤ 65536) ∧ Up w1.heap.size wc wr)) (fun _ s12 _ => L.length + 1 - (intOf s12).toNat)
      case atStart => exact ⟨0, Nat.zero_le _, rfl, rfl, hbw, L, HO.out, HN.out.symm, rfl, rfl, HS.out, Up.refl _ _⟩
      case round =>
        obtain ⟨t, ht, rfl, rfl, hbel, HI⟩ := hrel
        obtain ⟨L', HL⟩ := HI.out
        have HC := zzgive_any w.heap.size w1.heap.size (.slice a1 L.length L.length) L' d e' wr HL.1 (Nat.le_trans hC HL.2.2.2.2.2.1) (by rw [HL.2.2.2.1]; exact h1) HL.2.2.2.2.1
        have HCC : Hid _ := HC
        have HLL : Hid _ := HL
        clear HC HL HI
        go_upto_if 85 with (go_at_call 11; refine Calls.mono HCC.out ?_; rintro e w5 ⟨r, rfl, L2, HG5⟩)
        cases r with
        | false =>
          have HE : Hid (t = N ∧ Own w.heap.size w1.heap.size w5 (.slice a1 L.length L.length) (L.map (wn d e'))) := by
            obtain ⟨g1, g2, g3, ⟨g4, _⟩ | ⟨_, g5, g6⟩⟩ := HG5
            · cases g4
            · subst g5
              obtain ⟨l1, l2, l3, l4, l5, l6⟩ := HLL.out
              rw [none_count g6] at l2
              refine ⟨by omega, ?_⟩
              rw [← l3, none_map g6]
              exact g1
          have hb6 : Below w.heap.size w w5 := hbel.trans HG5.2.1
          have HW6 : Hid _ := HW.out.keep (HLL.out.2.2.2.2.2.trans HG5.2.2.1)
          clear HLL HG5 HCC
          go_wp2
          go_meet
          case rel => exact ⟨by rw [HE.out.1], hb6, HE.out.2, HW6.out⟩
        | true =>
          have HE : Hid (t + 1 ≤ N ∧ ∃ L', Own w.heap.size w1.heap.size w5 (.slice a1 L.length L.length) L' ∧ nEl d e' L' + (t + 1) = N ∧ L'.map (wn d e') = L.map (wn d e') ∧ L'.length = L.length ∧ (∀ R ∈ L', R.length ≤ 65536) ∧ Up w1.heap.size wc w5) := by
            obtain ⟨g1, g2, g3, ⟨_, g5⟩ | ⟨g4, _⟩⟩ := HG5
            · obtain ⟨l1, l2, l3, l4, l5, l6⟩ := HLL.out
              have := gave_count g5
              exact ⟨by omega, L2, g1, by omega, (gave_map g5).trans l3, (gave_length g5).trans l4, gave_short g5 l5, l6.trans g3⟩
            · cases g4
          have hb6 : Below w.heap.size w w5 := hbel.trans HG5.2.1
          have ht1 : t + 1 ≤ L.length := Nat.le_trans HE.out.1 hnl
          clear HLL HG5 HCC
          go_wp2
          go_roundw
          case rel => exact ⟨t + 1, ht1, by go_num, by go_num, hb6, HE.out.2⟩
          case measure => simp [intOf]; omega
    case rest =>
      obtain ⟨rfl, hb5, HO5, HW5⟩ := hcut
      clear HW HO hbw hC HN hnl
      go_wp2
      go_loopw [13] (fun s13 wr => ∃ k : Nat, k ≤ L.length ∧ s13 = .int .i64 k ∧ Below wc.heap.size wc wr) (fun s13 _ => L.length - (intOf s13).toNat)
      case atStart => exact ⟨0, Nat.zero_le _, rfl, Below.refl _ _⟩
      case round =>
        obtain ⟨k, hk, rfl, hbel⟩ := hrel
        by_cases hlt : k < L.length
        · obtain ⟨R, hR⟩ := at_of_lt (L := L.map (wn d e')) (k := k) (by simpa using hlt)
          obtain ⟨b, off, ra, rcap, rfl, hb', c1, hsr⟩ := (HO5.out.ssr.keep hbel).at hR
          obtain ⟨b6, off6, ra6, rcap6, hq, hb6, c2, hsr2⟩ := (HW5.out.ssr.keep hbel).at hR
          cases hq
          have HSR : Hid (SR wr (.slice ra R.length rcap) R) := hsr
          have HSR2 : Hid (SR wr (.slice ra6 R.length rcap6) R) := hsr2
          clear hsr hsr2
          rw [Nat.zero_add] at c2
          have hRl2 : R.length ≤ 1048576 := by
            obtain ⟨Q, hQ1, hQ2⟩ := List.mem_map.1 (List.mem_of_getElem? hR)
            have := HS.out Q hQ1
            rw [← hQ2, wn_length]
            omega
          clear hR HO5 HW5
          go_upto_region 31 with fail
          go_region_with (go_at_call 12; refine (equal_yes _ _ R _ ?_ ?_ hRl2).mono ?_; exact HSR.out; exact HSR2.out; rintro e w6 ⟨rfl, hb6⟩)
          all_goals (go_wp2; go_roundw; (case rel => exact ⟨k + 1, by omega, by go_num, hbel.trans ((undrew hb6).mono hbel.size)⟩); (case measure => simp [intOf]; omega))
        · go_wp2
          go_ret
          exact ⟨rfl, hb5.trans (hbel.mono hb5.size)⟩
end Go.Proofs.Qxb6617250a
