/-
  THE LAW 'FnGiveThenGiveBackRestoresTheShard': THE WALK.
-/
import Derived.Test.Qxb6617250aGive
import Derived.Test.Qxb6617250aClone
import Derived.Test.Qxb6617250aFit
import Derived.Test.Qxb6617250aBytes
import Derived.Deep.DeepCutAuto
import Derived.Deep.CutBlock
import Derived.Deep.RegionWith
namespace Go.Proofs.Qxb6617250a
open Go.RowKit
set_option linter.unusedVariables false

/-- What the search for the lowest shard that keeps d finds. -/
def LowAt (d : ByteArray) (L : List (List ByteArray)) (v : Value) : Prop :=
  (v = .int .i64 (-1) ∧ ∀ Q ∈ L, cntS d Q = 0) ∨ ∃ (i : Nat) (R : List ByteArray), v = .int .i64 i ∧ L[i]? = some R ∧ 0 < cntS d R ∧ ∀ (j : Nat) (Q : List ByteArray), j < i → L[j]? = some Q → cntS d Q = 0

/-! ### The two calls, plainly -/
def Said (d e : ByteArray) (L L' : List (List ByteArray)) (b : Bool) : Prop := (b = true ∧ Gave d e L L') ∨ (b = false ∧ L' = L ∧ ∀ R ∈ L, el d e R = false)
theorem Said.length {d e : ByteArray} {L L' : List (List ByteArray)} {b : Bool} (h : Said d e L L' b) : L'.length = L.length := by
  rcases h with ⟨_, h⟩ | ⟨_, h, _⟩
  · exact gave_length h
  · rw [h]
theorem Said.short {d e : ByteArray} {L L' : List (List ByteArray)} {b : Bool} (h : Said d e L L' b) {n : Nat} (hs : ∀ R ∈ L, R.length ≤ n) : ∀ R ∈ L', R.length ≤ n := by
  rcases h with ⟨_, h⟩ | ⟨_, h, _⟩
  · exact gave_short h hs
  · rw [h]; exact hs
theorem Said.no {d e : ByteArray} {L L' : List (List ByteArray)} {b : Bool} (h : Said d e L L' b) (hz : ∀ Q ∈ L, cntS d Q = 0) : b = false ∧ L' = L := by
  rcases h with ⟨_, h⟩ | ⟨h1, h2, _⟩
  · exact absurd h (not_gave (none_of hz))
  · exact ⟨h1, h2⟩
theorem said_back {d e : ByteArray} {L L3 L4 : List (List ByteArray)} {i : Nat} {R : List ByteArray} {b3 b4 : Bool} (hne : ¬ d = e) (hz : ∀ Q ∈ L, cntS e Q = 0) (hi : L[i]? = some R) (hR : 0 < cntS d R) (hm : ∀ (j : Nat) (Q : List ByteArray), j < i → L[j]? = some Q → cntS d Q = 0)
    (h3 : Said d e L L3 b3) (h4 : Said e d L3 L4 b4) : b3 = true ∧ ((cntS d R = 1 ∧ b4 = true ∧ L4 = L.set i (srt R)) ∨ (¬ cntS d R = 1 ∧ b4 = false ∧ L4 = L.set i (giv d e R))) := by
  have hil : i < L.length := (List.getElem?_eq_some_iff.1 hi).1
  rcases h3 with ⟨r1, r2⟩ | ⟨_, _, r3⟩
  · refine ⟨r1, ?_⟩
    have r4 := back_first hz hi hR hm r2
    subst r4
    have hin : (L.set i (giv d e R))[i]? = some (giv d e R) := List.getElem?_set_self hil
    have hb := back_el (e := e) hne hR
    rcases h4 with ⟨s1, s2⟩ | ⟨s1, s2, s3⟩
    · refine .inl ⟨?_, s1, back_yes hne hz hi hR s2⟩
      obtain ⟨i', R', t1, t2, _⟩ := s2
      by_cases e1 : i = i'
      · subst e1
        rw [hin] at t1
        cases t1
        rw [hb] at t2
        exact of_decide_eq_true t2
      · rw [back_others hz t1 e1] at t2
        cases t2
    · refine .inr ⟨fun hc => ?_, s1, s2⟩
      have := s3 _ (List.mem_of_getElem? hin)
      rw [hb, decide_eq_true hc] at this
      cases this
  · have := r3 R (List.mem_of_getElem? hi)
    rw [el_iff.2 ⟨hR, hz R (List.mem_of_getElem? hi)⟩] at this
    cases this
theorem row_sr {B : Nat} {w : World} {v : Value} {R T : List ByteArray} (h : Row B w v R) (hR : R = T) : SR w v T := by
  subst hR
  exact (h.src (Nat.le_refl _)).sr

set_option maxRecDepth 100000 in
set_option maxHeartbeats 8000000 in
theorem back_any (x : Value) (L : List (List ByteArray)) (d e' : ByteArray) (w : World) (h : SSR w x L) :
    Calls Try.prog 4 #[x, .string d, .string e'] w fun e w' => e = .returned (.bool true) ∧ Below w.heap.size w w' := by
  have HX : Hid (SSR w x L) := h
  obtain ⟨a, cap, rfl, h'⟩ := h
  clear h'
  go_enter Try.func4, Try.ntmps4
  go_upto_if 21 with (go_at_call 13; refine (bytes13_any _ L d e' w HX.out).mono ?_; rintro e w' ⟨⟨r, rfl, _⟩, rfl⟩)
  cases r with
  | false =>
    go_wp2
    go_ret
    exact ⟨rfl, Below.refl _ _⟩
  | true =>
  by_cases h0 : ¬ L.length ≤ 65536
  · go_wp2
    go_ret
    exact ⟨rfl, Below.refl _ _⟩
  have h1 : L.length ≤ 65536 := by omega
  clear h0
  go_upto_if 29 with (go_at_call 7; refine (fit_any _ L d e' w HX.out).mono ?_; rintro e w' ⟨⟨r, rfl, hF⟩, rfl⟩)
  cases r with
  | false =>
    go_wp2
    go_ret
    exact ⟨rfl, Below.refl _ _⟩
  | true =>
  simp only [Bool.not_true]
  have HS : Hid (∀ R ∈ L, R.length ≤ 65536) := hF rfl
  clear hF
  by_cases hde : d = e'
  · have hq := same_yes hde
    go_wp2
    go_ret
    exact ⟨rfl, Below.refl _ _⟩
  have hq := same_no hde
  have HDE : Hid (¬ d = e') := hde
  clear hde
  go_upto_block 0 with fail
  clear hq
  go_cut [7] (fun s7 wx => wx = w ∧ Hid (∀ Q ∈ L, cntS e' Q = 0))
  case first =>
    go_wp2_with fail
    go_loop [7] (fun s7 => ∃ k : Nat, k ≤ L.length ∧ s7 = .int .i64 k ∧ Hid (∀ Q ∈ L.take k, cntS e' Q = 0)) (fun s7 => L.length - (intOf s7).toNat)
    case atStart => exact ⟨0, Nat.zero_le _, rfl, fun Q hQ => by simp at hQ⟩
    case round =>
      obtain ⟨k, hk, rfl, HZ⟩ := hrel
      by_cases hlt : k < L.length
      · obtain ⟨R, hR⟩ := at_of_lt hlt
        obtain ⟨b, off, ra, rcap, rfl, hb', c1, hsr⟩ := HX.out.at hR
        have hRl : R.length ≤ 1048576 := by have := HS.out R (List.mem_of_getElem? hR); omega
        have HSR : Hid (SR w (.slice ra R.length rcap) R) := hsr
        have HT : Hid (L.take (k + 1) = L.take k ++ [R]) := by show _ = _; rw [List.take_add_one, hR]; rfl
        clear hsr hR
        by_cases q1 : 0 < cntS e' R
        · go_wp2_with (go_at_call 9; refine (count_any _ R _ w HSR.out hRl).mono ?_; rintro e w' ⟨rfl, rfl⟩)
          go_ret
          exact ⟨rfl, Below.refl _ _⟩
        · have HN : Hid (∀ Q ∈ L.take (k + 1), cntS e' Q = 0) := by
            rw [HT.out]
            intro Q hQ
            rcases List.mem_append.1 hQ with hQ | hQ
            · exact HZ.out Q hQ
            · simp at hQ; subst hQ; omega
          go_wp2_with (go_at_call 9; refine (count_any _ R _ w HSR.out hRl).mono ?_; rintro e w' ⟨rfl, rfl⟩)
          go_round
          case rel => exact ⟨k + 1, by omega, by go_num, HN.out⟩
          case measure => simp [intOf]; omega
      · have HF : Hid (∀ Q ∈ L, cntS e' Q = 0) := by
          have := HZ.out
          rw [List.take_of_length_le (by omega)] at this
          exact this
        go_wp2
        go_meet
        case rel => exact ⟨rfl, HF.out⟩
  case rest =>
    obtain ⟨rfl, HZ⟩ := hcut
    go_upto_region 15 with (go_at_call 8; refine (clone_any _ L wc HX.out h1 HS.out).mono ?_; rintro e w1 ⟨u1, rfl, HO1, hb1⟩; obtain ⟨a1, rfl⟩ := HO1.out.shape)
    go_upto_region 16 with (go_at_call 8; refine (clone_any _ L w1 HO1.out.ssr h1 HS.out).mono ?_; rintro e w2 ⟨u2, rfl, HO2, hb2⟩; obtain ⟨a2, rfl⟩ := HO2.out.shape)
    clear HX
    obtain ⟨w, rfl⟩ : ∃ w, w = wc := ⟨wc, rfl⟩
    go_upto_block 2 with fail
    go_cut [9] (fun s9 wx => wx = w2 ∧ Hid (LowAt d L s9))
    case first =>
      go_wp2_with fail
      go_loop [9, 10] (fun s9 s10 => ∃ k : Nat, k ≤ L.length ∧ s9 = .int .i64 (-1) ∧ s10 = .int .i64 k ∧ Hid (∀ Q ∈ L.take k, cntS d Q = 0)) (fun _ s10 => L.length - (intOf s10).toNat)
      case atStart => exact ⟨0, Nat.zero_le _, rfl, rfl, fun Q hQ => by simp at hQ⟩
      case round =>
        obtain ⟨k, hk, rfl, rfl, HZ2⟩ := hrel
        by_cases hlt : k < L.length
        · obtain ⟨R, hR⟩ := at_of_lt hlt
          obtain ⟨b, off, ra, rcap, rfl, hb', c1, hsr⟩ := HO2.out.ssr.at hR
          have hRl : R.length ≤ 1048576 := by have := HS.out R (List.mem_of_getElem? hR); omega
          have HSR : Hid (SR w2 (.slice ra R.length rcap) R) := hsr
          have HT : Hid (L.take (k + 1) = L.take k ++ [R]) := by show _ = _; rw [List.take_add_one, hR]; rfl
          have HR : Hid (L[k]? = some R) := hR
          clear hsr hR
          by_cases q1 : 0 < cntS d R
          · have HL : Hid (LowAt d L (.int .i64 k)) := .inr ⟨k, R, rfl, HR.out, q1, fun j Q hj hQ => HZ2.out Q (List.mem_of_getElem? (by rw [List.getElem?_take_of_lt hj]; exact hQ))⟩
            go_wp2_with (go_at_call 9; refine (count_any _ R _ w2 HSR.out hRl).mono ?_; rintro e w' ⟨rfl, rfl⟩)
            go_meet
            case rel => exact ⟨rfl, HL.out⟩
          · have HN : Hid (∀ Q ∈ L.take (k + 1), cntS d Q = 0) := by
              rw [HT.out]
              intro Q hQ
              rcases List.mem_append.1 hQ with hQ | hQ
              · exact HZ2.out Q hQ
              · simp at hQ; subst hQ; omega
            go_wp2_with (go_at_call 9; refine (count_any _ R _ w2 HSR.out hRl).mono ?_; rintro e w' ⟨rfl, rfl⟩)
            go_round
            case rel => exact ⟨k + 1, by omega, rfl, by go_num, HN.out⟩
            case measure => simp [intOf]; omega
        · have HL : Hid (LowAt d L (.int .i64 (-1))) := by
            have := HZ2.out
            rw [List.take_of_length_le (by omega)] at this
            exact .inl ⟨rfl, this⟩
          go_wp2
          go_meet
          case rel => exact ⟨rfl, HL.out⟩
    case rest =>
      obtain ⟨rfl, HLOW⟩ := hcut
      obtain ⟨w2, rfl⟩ : ∃ w2, w2 = wc := ⟨wc, rfl⟩
      have HO : Hid (Own w.heap.size w1.heap.size w2 (.slice a1 L.length L.length) L) := HO1.out.keep (fun b hb => hb2.block b hb)
      have HB2 : Hid (SSRC w1.heap.size w2 (.slice a2 L.length L.length) L) := HO2.out.ssrc
      have hbw : Below w.heap.size w w2 := hb1.trans (hb2.mono hb1.size)
      have hC : w1.heap.size ≤ w2.heap.size := hb2.size
      clear HO1 HO2
      rcases HLOW.out with ⟨rfl, hlz⟩ | ⟨i, R, rfl, hi, hR, hm⟩
      · have HLZ : Hid (∀ Q ∈ L, cntS d Q = 0) := hlz
        clear hlz HLOW
        have hG3 := zzgive_any w.heap.size w1.heap.size (.slice a1 L.length L.length) L d e' w2 HO.out hC h1 HS.out
        have HG3 : Hid _ := hG3
        clear hG3
        go_upto_region 23 with (go_at_call 11; refine Calls.mono HG3.out ?_; rintro e w3 ⟨b3, rfl, L3, HV3⟩)
        have HS3 : Hid (Said d e' L L3 b3) := HV3.2.2.2
        have hG4 := zzgive_any w.heap.size w1.heap.size (.slice a1 L.length L.length) L3 e' d w3 HV3.1 (Nat.le_trans hC HV3.2.2.1.1) (by rw [HS3.out.length]; exact h1) (HS3.out.short HS.out)
        have HG4 : Hid _ := hG4
        have HV3' : Hid _ := HV3
        clear hG4 HG3 HV3
        go_upto_region 24 with (go_at_call 11; refine Calls.mono HG4.out ?_; rintro e w4 ⟨b4, rfl, L4, HV4⟩)
        have HS4 : Hid (Said e' d L3 L4 b4) := HV4.2.2.2
        have hb4 : Below w.heap.size w w4 := hbw.trans (HV3'.out.2.1.trans HV4.2.1)
        have HB4 : Hid (SSRC w1.heap.size w4 (.slice a2 L.length L.length) L) := HB2.out.keep (HV3'.out.2.2.1.trans HV4.2.2.1)
        have HO4 : Hid (Own w.heap.size w1.heap.size w4 (.slice a1 L.length L.length) L4) := HV4.1
        clear HV3' HV4 HG4 HB2 HO hbw
        obtain ⟨rfl, rfl⟩ := HS3.out.no HLZ.out
        obtain ⟨rfl, rfl⟩ := HS4.out.no HZ.out
        clear HS3 HS4 HLZ
        go_wp2
        go_loopw [13] (fun s13 wr => ∃ k : Nat, k ≤ L4.length ∧ s13 = .int .i64 k ∧ Below w4.heap.size w4 wr) (fun s13 _ => L4.length - (intOf s13).toNat)
        case atStart => exact ⟨0, Nat.zero_le _, rfl, Below.refl _ _⟩
        case round =>
          obtain ⟨k, hk, rfl, hbel⟩ := hrel
          by_cases hlt : k < L4.length
          · obtain ⟨Q, hQ⟩ := at_of_lt hlt
            obtain ⟨b, off, ra, rcap, rfl, hb', c1, hsr⟩ := (HO4.out.ssr.keep hbel).at hQ
            obtain ⟨b6, off6, ra6, rcap6, rfl, hb6', c2, hsr2⟩ := (HB4.out.ssr.keep hbel).at hQ
            have HSR : Hid (SR wr (.slice ra Q.length rcap) Q) := hsr
            have HSR2 : Hid (SR wr (.slice ra6 Q.length rcap6) Q) := hsr2
            have hQl : Q.length ≤ 1048576 := by have := HS.out Q (List.mem_of_getElem? hQ); omega
            clear hsr hsr2 hQ HO4 HB4
            go_upto_region 32 with fail
            go_region_with (go_at_call 12; refine (equal_yes _ _ Q _ ?_ ?_ hQl).mono ?_; exact HSR.out; exact HSR2.out; rintro e w6 ⟨rfl, hb6⟩)
            all_goals (go_wp2; go_roundw; (case rel => exact ⟨k + 1, by omega, by go_num, hbel.trans ((undrew hb6).mono hbel.size)⟩); (case measure => simp [intOf]; omega))
          · go_wp2
            go_ret
            exact ⟨rfl, hb4.trans (hbel.mono hb4.size)⟩
      · clear HLOW
        have hil : i < L.length := (List.getElem?_eq_some_iff.1 hi).1
        have HI : Hid (L[i]? = some R) := hi
        have HR2 : Hid (0 < cntS d R) := hR
        have HM : Hid (∀ (j : Nat) (Q : List ByteArray), j < i → L[j]? = some Q → cntS d Q = 0) := hm
        clear hi hR hm
        have hG3 := zzgive_any w.heap.size w1.heap.size (.slice a1 L.length L.length) L d e' w2 HO.out hC h1 HS.out
        have HG3 : Hid _ := hG3
        clear hG3
        go_upto_region 23 with (go_at_call 11; refine Calls.mono HG3.out ?_; rintro e w3 ⟨b3, rfl, L3, HV3⟩)
        have HS3 : Hid (Said d e' L L3 b3) := HV3.2.2.2
        have hG4 := zzgive_any w.heap.size w1.heap.size (.slice a1 L.length L.length) L3 e' d w3 HV3.1 (Nat.le_trans hC HV3.2.2.1.1) (by rw [HS3.out.length]; exact h1) (HS3.out.short HS.out)
        have HG4 : Hid _ := hG4
        have HV3' : Hid _ := HV3
        clear hG4 HG3 HV3
        go_upto_region 24 with (go_at_call 11; refine Calls.mono HG4.out ?_; rintro e w4 ⟨b4, rfl, L4, HV4⟩)
        have HS4 : Hid (Said e' d L3 L4 b4) := HV4.2.2.2
        have hb4 : Below w.heap.size w w4 := hbw.trans (HV3'.out.2.1.trans HV4.2.1)
        have HB4 : Hid (SSRC w1.heap.size w4 (.slice a2 L.length L.length) L) := HB2.out.keep (HV3'.out.2.2.1.trans HV4.2.2.1)
        have HO4 : Hid (Own w.heap.size w1.heap.size w4 (.slice a1 L.length L.length) L4) := HV4.1
        clear HV3' HV4 HG4 HB2 HO hbw
        obtain ⟨rfl, hcase⟩ := said_back HDE.out HZ.out HI.out HR2.out HM.out HS3.out HS4.out
        clear HS3 HS4 HM
        have hRl : R.length ≤ 65536 := HS.out R (List.mem_of_getElem? HI.out)
        have hRl2 : R.length ≤ 1048576 := by omega
        obtain ⟨b, off, ra, rcap, rfl, hb', c1, hsr⟩ := HB4.out.ssr.at HI.out
        have HSRB : Hid (SR w4 (.slice ra R.length rcap) R) := hsr
        clear hsr
        rcases hcase with ⟨hc, rfl, rfl⟩ | ⟨hc, rfl, rfl⟩
        · have HC1 : Hid (Calls Try.prog 9 #[.slice ra R.length rcap, .string d] w4 fun e w' => e = .returned (.int .i64 1) ∧ w4 = w') := by
            have := count_any _ R d w4 HSRB.out hRl2
            rw [hc] at this
            exact this
          clear hc
          go_upto_block 6 with (first | (go_at_call 9; refine Calls.mono HC1.out ?_; rintro e w' ⟨rfl, rfl⟩) | (go_at_call 14; refine (sorted_any _ R w4 HSRB.out hRl2).mono ?_; rintro e w5 ⟨R5, u5, rfl, HR5, hb5⟩))
          have HSU : Hid (SR w5 u5 (srt R)) := row_sr HR5.out.2.2 (srt_eq HR5.out.1 HR5.out.2.1)
          have HO5 : Hid (SSR w5 (.slice a1 L.length L.length) (L.set i (srt R))) := HO4.out.ssr.keep hb5
          have HB5 : Hid (SSR w5 (.slice (some ⟨b, off, none⟩) L.length L.length) L) := HB4.out.ssr.keep hb5
          have hbw5 : Below w.heap.size w w5 := hb4.trans (hb5.mono hb4.size)
          have hXl : (srt R).length ≤ 1048576 := by rw [(srt_perm R).length_eq]; exact hRl2
          generalize srt R = X at HSU HO5 hXl
          clear HR5 HO4 HB4 HC1 hb5 c1 hb'
          go_wp2_with fail
          go_loopw [16] (fun s16 wr => ∃ k : Nat, k ≤ L.length ∧ s16 = .int .i64 k ∧ Below w5.heap.size w5 wr) (fun s16 _ => L.length - (intOf s16).toNat)
          case atStart => exact ⟨0, Nat.zero_le _, rfl, Below.refl _ _⟩
          case round =>
            obtain ⟨k, hk, rfl, hbel⟩ := hrel
            by_cases hlt : k < L.length
            · by_cases hki : k = i
              · subst hki
                obtain ⟨b7, off7, ra7, rcap7, rfl, hb7', c7, hsr⟩ := (HO5.out.keep hbel).at (k := k) (R := X) (List.getElem?_set_self hlt)
                have HSR : Hid (SR wr (.slice ra7 X.length rcap7) X) := hsr
                have HSR2 : Hid (SR wr u5 X) := HSU.out.keep hbel
                clear hsr HO5 HB5
                go_wp2_with (go_at_call 12; refine (equal_yes _ _ X wr HSR.out HSR2.out hXl).mono ?_; rintro e w6 ⟨rfl, hb6⟩)
                go_roundw
                case rel => exact ⟨k + 1, by omega, by go_num, hbel.trans (hb6.mono hbel.size)⟩
                case measure => simp [intOf]; omega
              · obtain ⟨Q, hQ⟩ := at_of_lt hlt
                obtain ⟨b7, off7, ra7, rcap7, rfl, hb7', c7, hsr⟩ := (HO5.out.keep hbel).at (k := k) (R := Q) (by rw [List.getElem?_set_ne (fun e => hki e.symm)]; exact hQ)
                obtain ⟨b6, off6, ra6, rcap6, hq6, hb6', c2, hsr2⟩ := (HB5.out.keep hbel).at hQ
                cases hq6
                have HSR : Hid (SR wr (.slice ra7 Q.length rcap7) Q) := hsr
                have HSR2 : Hid (SR wr (.slice ra6 Q.length rcap6) Q) := hsr2
                have hQl : Q.length ≤ 1048576 := by have := HS.out Q (List.mem_of_getElem? hQ); omega
                have hki2 : ¬ ((k : Int) = (i : Int)) := by omega
                clear hsr hsr2 hQ HO5 HB5 hki
                go_upto_region 50 with fail
                go_region_with (go_at_call 12; refine (equal_yes _ _ Q _ ?_ ?_ hQl).mono ?_; exact HSR.out; exact HSR2.out; rintro e w6 ⟨rfl, hb6⟩)
                all_goals (go_wp2; go_roundw; (case rel => exact ⟨k + 1, by omega, by go_num, hbel.trans ((undrew hb6).mono hbel.size)⟩); (case measure => simp [intOf]; omega))
            · go_wp2
              go_ret
              exact ⟨rfl, hbw5.trans (hbel.mono hbw5.size)⟩
        · obtain ⟨cR, hcR⟩ : ∃ cR, cR = cntS d R := ⟨_, rfl⟩
          have HC1 : Hid (Calls Try.prog 9 #[.slice ra R.length rcap, .string d] w4 fun e w' => e = .returned (.int .i64 (cR : Nat)) ∧ w4 = w') := by
            have := count_any _ R d w4 HSRB.out hRl2
            rw [← hcR] at this
            exact this
          rw [← hcR] at hc
          have hc2 : ¬ ((cR : Int) = 1) := by omega
          clear hc hcR
          go_upto_block 6 with (first | (go_at_call 9; refine Calls.mono HC1.out ?_; rintro e w' ⟨rfl, rfl⟩) | (go_at_call 10; refine (expect_any _ R d e' w4 HSRB.out hRl).mono ?_; rintro e w5 ⟨R5, u5, rfl, HR5, hb5⟩))
          have HSU : Hid (SR w5 u5 (giv d e' R)) := row_sr HR5.out.2.2 (srt_eq HR5.out.1 HR5.out.2.1)
          have HO5 : Hid (SSR w5 (.slice a1 L.length L.length) (L.set i (giv d e' R))) := HO4.out.ssr.keep hb5
          have HB5 : Hid (SSR w5 (.slice (some ⟨b, off, none⟩) L.length L.length) L) := HB4.out.ssr.keep hb5
          have hbw5 : Below w.heap.size w w5 := hb4.trans (hb5.mono hb4.size)
          have hXl : (giv d e' R).length ≤ 1048576 := by rw [giv_length HR2.out]; exact hRl2
          generalize giv d e' R = X at HSU HO5 hXl
          clear HR5 HO4 HB4 HC1 hb5 c1 hb'
          go_wp2_with fail
          go_loopw [16] (fun s16 wr => ∃ k : Nat, k ≤ L.length ∧ s16 = .int .i64 k ∧ Below w5.heap.size w5 wr) (fun s16 _ => L.length - (intOf s16).toNat)
          case atStart => exact ⟨0, Nat.zero_le _, rfl, Below.refl _ _⟩
          case round =>
            obtain ⟨k, hk, rfl, hbel⟩ := hrel
            by_cases hlt : k < L.length
            · by_cases hki : k = i
              · subst hki
                obtain ⟨b7, off7, ra7, rcap7, rfl, hb7', c7, hsr⟩ := (HO5.out.keep hbel).at (k := k) (R := X) (List.getElem?_set_self hlt)
                have HSR : Hid (SR wr (.slice ra7 X.length rcap7) X) := hsr
                have HSR2 : Hid (SR wr u5 X) := HSU.out.keep hbel
                clear hsr HO5 HB5
                go_wp2_with (go_at_call 12; refine (equal_yes _ _ X wr HSR.out HSR2.out hXl).mono ?_; rintro e w6 ⟨rfl, hb6⟩)
                go_roundw
                case rel => exact ⟨k + 1, by omega, by go_num, hbel.trans (hb6.mono hbel.size)⟩
                case measure => simp [intOf]; omega
              · obtain ⟨Q, hQ⟩ := at_of_lt hlt
                obtain ⟨b7, off7, ra7, rcap7, rfl, hb7', c7, hsr⟩ := (HO5.out.keep hbel).at (k := k) (R := Q) (by rw [List.getElem?_set_ne (fun e => hki e.symm)]; exact hQ)
                obtain ⟨b6, off6, ra6, rcap6, hq6, hb6', c2, hsr2⟩ := (HB5.out.keep hbel).at hQ
                cases hq6
                have HSR : Hid (SR wr (.slice ra7 Q.length rcap7) Q) := hsr
                have HSR2 : Hid (SR wr (.slice ra6 Q.length rcap6) Q) := hsr2
                have hQl : Q.length ≤ 1048576 := by have := HS.out Q (List.mem_of_getElem? hQ); omega
                have hki2 : ¬ ((k : Int) = (i : Int)) := by omega
                clear hsr hsr2 hQ HO5 HB5 hki
                go_upto_region 50 with fail
                go_region_with (go_at_call 12; refine (equal_yes _ _ Q _ ?_ ?_ hQl).mono ?_; exact HSR.out; exact HSR2.out; rintro e w6 ⟨rfl, hb6⟩)
                all_goals (go_wp2; go_roundw; (case rel => exact ⟨k + 1, by omega, by go_num, hbel.trans ((undrew hb6).mono hbel.size)⟩); (case measure => simp [intOf]; omega))
            · go_wp2
              go_ret
              exact ⟨rfl, hbw5.trans (hbel.mono hbw5.size)⟩
end Go.Proofs.Qxb6617250a
