/-
  'zzNodeB1SortedCopy': THE WALK: a fresh row that holds the strings in order.
-/
import Derived.Test.Qxb6617250aSortPlain
import Derived.Deep.DeepCutAuto
import Derived.Deep.CutBlock
namespace Go.Proofs.Qxb6617250a
open Go.RowKit
set_option linter.unusedVariables false

theorem info9 : (Try.prog.info? 9).map (fun i => (i.zero, i.size, i.bytes)) = some (some (.string ByteArray.empty), 1, 16) := by kernel_rfl
/-- A row of strings of the call's own. -/
def Row (B : Nat) (w : World) (v : Value) (R : List ByteArray) : Prop := ∃ g, v = .slice (some ⟨g, 0, none⟩) R.length R.length ∧ B ≤ g ∧ Blk w g 9 (sv R)

/-- The state within a pass: bl has been laid, ys is what is left of the room. -/
structure Mid (B : Nat) (w wr : World) (ga gb n W lo : Nat) (A bl : List ByteArray) (ys : List Value) : Prop where
  a : Blk wr ga 9 (sv A)
  b : Blk wr gb 9 (sv bl ++ ys)
  bln : bl.length = min lo n
  ysn : bl.length + ys.length = n
  pss : bl ++ pass leS W n (A.drop lo) = pass leS W n A
  below : Below B w wr
/-- The state ahead of a pass: A in block ga, its chunks of width W in order; block gb is room for n strings. -/
structure Inv (B : Nat) (w wr : World) (ga gb n W : Nat) (A S : List ByteArray) : Prop where
  ba : B ≤ ga
  bb : B ≤ gb
  ne : ga ≠ gb
  len : n = S.length
  perm : A.Perm S
  ch : Ch leS W A
  a : Blk wr ga 9 (sv A)
  b : ∃ ys, Blk wr gb 9 ys ∧ ys.length = n
  below : Below B w wr

set_option maxRecDepth 100000 in
set_option maxHeartbeats 8000000 in
theorem sorted_any (v : Value) (S : List ByteArray) (w : World) (h : SR w v S) (hl : S.length ≤ 1048576) :
    Calls Try.prog 14 #[v] w fun e w' => ∃ R u, e = .returned u ∧ Hid (R.Perm S ∧ SortedS R ∧ Row w.heap.size w' u R) ∧ Below w.heap.size w w' := by
  obtain ⟨a, cap, rfl, h⟩ := h
  have HH : Hid _ := h
  clear h
  obtain ⟨n, hn⟩ : ∃ n, n = S.length := ⟨_, rfl⟩
  rw [← hn] at hl ⊢
  have HN : Hid (n = S.length) := hn
  clear hn
  obtain ⟨i0, hi, hz0, hz1, hz2⟩ := info_parts info9
  go_enter Try.func14, Try.ntmps14
  go_upto_block 0 with (at_make; refine wpList_make_full _ rfl _ _ 26 rfl w.heap.size 9 i0 _ 1 Try.underlying26 hi hz0 hz1 .i64 .i64 n n n rfl rfl rfl rfl (by rw [hz2]; omega) (by unfold maxLen; omega) (Nat.le_refl _) ?_; intro w1 hown hgr; have hB1 : Below w.heap.size w w1 := (Below.refl _ _).grown hgr (Nat.le_refl _) (fun k hk => by cases hk); obtain ⟨b1, bl1, _⟩ := Blk.made hown rfl; clear hown hgr)
  generalize (madeCells (Value.string ByteArray.empty).cells (n * 1)).toList = ys at b1 bl1
  have bl2 : ys.length = n := by omega
  clear bl1
  go_cut [5] (fun s5 wx => Hid (Blk wx w.heap.size 9 (sv S)) ∧ Below w.heap.size w wx)
  case first =>
    go_wp2_with fail
    go_loopw [5] (fun s5 wr => ∃ k : Nat, k ≤ n ∧ s5 = .int .i64 k ∧ Below w.heap.size w wr ∧ ∃ zs, Hid (Blk wr w.heap.size 9 (sv (S.take k) ++ zs) ∧ zs.length = n - k)) (fun s5 _ => n - (intOf s5).toNat)
    case atStart => exact ⟨0, Nat.zero_le _, rfl, hB1, ys, b1, bl2⟩
    case round =>
      obtain ⟨k, hk, rfl, hbel, zs, HB⟩ := hrel
      have hzz := hbel.size
      by_cases hlt : k < n
      · obtain ⟨b, off, rfl, hb1, hb2⟩ := HH.out (by rw [← HN.out]; omega)
        obtain ⟨s, hs1, hs2⟩ := drop_atS (R := S) (j := k) (by rw [← HN.out]; omega)
        have c1 : wr.cell? ⟨b, off + k, none⟩ = some (.string s) := (hbel.cell (by exact hb1)).trans (hb2 k s hs1)
        have hkl : (S.take k).length = k := by rw [List.length_take, ← HN.out]; omega
        obtain ⟨u0, d0⟩ := blk_old HB.out.1 hkl (by rw [HB.out.2]; omega)
        have f0 := HB.out.1.free k
        have HT : Hid (S.take (k + 1) = S.take k ++ [s]) := by show _ = _; rw [List.take_add_one, hs1]; rfl
        have hnext := blk_next (s := s) HB.out.1 hkl (by rw [HB.out.2]; omega)
        have hzl : (zs.drop 1).length = n - (k + 1) := by rw [List.length_drop, HB.out.2]; omega
        have HNX : Hid _ := hnext
        have HZL : Hid _ := hzl
        clear hnext hzl hs1 hs2 hb2 hkl
        go_wp2
        go_roundw
        case rel => exact ⟨k + 1, by omega, by go_num, hbel.setCell (Nat.le_refl _) _, zs.drop 1, by rw [HT.out]; exact HNX.out, HZL.out⟩
        case measure => simp [intOf]; omega
      · obtain rfl : k = n := by omega
        have HF : Hid (Blk wr w.heap.size 9 (sv S)) := by
          have h1 := HB.out
          have h2 : zs = [] := List.eq_nil_of_length_eq_zero (by omega)
          rw [h2, List.append_nil, List.take_of_length_le (by rw [← HN.out]; omega)] at h1
          exact h1.1
        go_wp2
        go_meet
        case rel => exact ⟨HF.out, hbel⟩
  case rest =>
  obtain ⟨HA, hbc⟩ := hcut
  have hzc := hbc.size
  have hgl : w.heap.size < wc.heap.size := HA.out.lt
  clear HH b1 bl2 hB1
  go_upto_block 2 with (at_make; refine wpList_make_full _ rfl _ _ 26 rfl w.heap.size 9 i0 _ 1 Try.underlying26 hi hz0 hz1 .i64 .i64 n n n rfl rfl rfl rfl (by rw [hz2]; omega) (by unfold maxLen; omega) hzc ?_; intro w2 hown hgr; have hB2 : Below wc.heap.size wc w2 := (Below.refl _ _).grown hgr (Nat.le_refl _) (fun k hk => by cases hk); obtain ⟨b2, bl2, _⟩ := Blk.made hown rfl; clear hown hgr)
  generalize (madeCells (Value.string ByteArray.empty).cells (n * 1)).toList = ys at b2 bl2
  have HI0 : Hid (Inv w.heap.size w w2 w.heap.size wc.heap.size n 1 S S) := by
    refine ⟨Nat.le_refl _, hzc, by omega, HN.out, List.Perm.refl _, ch_one leS S, HA.out.below hB2 hgl, ⟨ys, b2, by omega⟩, hbc.trans (hB2.mono hzc)⟩
  clear HA b2 bl2 hB2
  go_wp2_with fail
  go_loopw [4, 6, 7] (fun sa sb sw wr => ∃ (W ga gb : Nat) (A : List ByteArray), 1 ≤ W ∧ W ≤ 2097152 ∧ sw = .int .i64 W ∧ sa = .slice (some ⟨ga, 0, none⟩) n n ∧ sb = .slice (some ⟨gb, 0, none⟩) n n ∧ Hid (Inv w.heap.size w wr ga gb n W A S)) (fun _ _ sw _ => n - (intOf sw).toNat)
  case atStart => exact ⟨1, _, _, S, by omega, by omega, rfl, rfl, rfl, HI0.out⟩
  case round =>
    clear HI0
    obtain ⟨W, ga, gb, A, hW1, hW2, rfl, rfl, rfl, HI⟩ := hrel
    by_cases hlt : W < n
    · go_upto_block 4 with fail
      go_cut [8] (fun s8 wx => Hid (Blk wx ga 9 (sv A) ∧ Blk wx gb 9 (sv (pass leS W n A)) ∧ Below w.heap.size w wx))
      case first =>
        go_wp2_with fail
        go_loopw [8] (fun s8 wx => ∃ lo : Nat, lo ≤ 4194304 ∧ s8 = .int .i64 lo ∧ ∃ bl ys, Hid (Mid w.heap.size w wx ga gb n W lo A bl ys)) (fun s8 _ => n - (intOf s8).toNat)
        case atStart =>
          obtain ⟨i1, i2, i3, i4, i5, i6, i7, ⟨ys, i8, i8'⟩, i9⟩ := HI.out
          exact ⟨0, by omega, rfl, [], ys, i7, i8, by simp, by simpa using i8', by simp, i9⟩
        case round =>
          obtain ⟨lo, hlo, rfl, bl, ys, HM⟩ := hrel
          by_cases hln : lo < n
          · have hA : A.length = n := by rw [HI.out.perm.length_eq]; exact HI.out.len.symm
            obtain ⟨mid, hmid⟩ : ∃ mid, mid = min (lo + W) n := ⟨_, rfl⟩
            obtain ⟨hi', hhi⟩ : ∃ hi', hi' = min (lo + (W + W)) n := ⟨_, rfl⟩
            have q1 : lo < mid := by omega
            have q2 : mid ≤ hi' := by omega
            have q3 : hi' ≤ n := by omega
            have HQ : Hid (mid = min (lo + W) n ∧ hi' = min (lo + (W + W)) n) := ⟨hmid, hhi⟩
            have HAL : Hid (A.length = n) := hA
            clear hmid hhi hA
            have HS0 : Hid (Blk wr gb 9 (sv bl ++ ys) ∧ bl.length = lo ∧ bl.length + ys.length = n ∧ Blk wr ga 9 (sv A) ∧ Below w.heap.size w wr) := by
              obtain ⟨m1, m2, m3, m4, m5, m6⟩ := HM.out
              exact ⟨m2, by omega, m4, m1, m6⟩
            go_upto_if 49 with fail
            go_cut [9] (fun s9 wx => s9 = .int .i64 (mid : Int) ∧ wr = wx)
            case first =>
              by_cases hq : lo + W ≤ n
              · have hq' : ¬ (n : Int) < (lo : Int) + (W : Int) := by omega
                go_wp2
                go_meet
                case rel => exact ⟨by have := HQ.out.1; rw [show (mid : Int) = (lo : Int) + (W : Int) by omega], rfl⟩
              · have hq' : (n : Int) < (lo : Int) + (W : Int) := by omega
                go_wp2
                go_meet
                case rel => exact ⟨by have := HQ.out.1; rw [show (mid : Int) = (n : Int) by omega], rfl⟩
            case rest =>
            obtain ⟨rfl, rfl⟩ := hcut
            go_upto_if 57 with fail
            go_cut [10] (fun s10 wx => s10 = .int .i64 (hi' : Int) ∧ wr = wx)
            case first =>
              by_cases hq : lo + (W + W) ≤ n
              · have hq' : ¬ (n : Int) < (lo : Int) + 2 * (W : Int) := by omega
                go_wp2
                go_meet
                case rel => exact ⟨by have := HQ.out.2; rw [show (hi' : Int) = (lo : Int) + 2 * (W : Int) by omega], rfl⟩
              · have hq' : (n : Int) < (lo : Int) + 2 * (W : Int) := by omega
                go_wp2
                go_meet
                case rel => exact ⟨by have := HQ.out.2; rw [show (hi' : Int) = (n : Int) by omega], rfl⟩
            case rest =>
            obtain ⟨rfl, rfl⟩ := hcut
            go_wp2_with fail
            go_loopw [11, 12, 13] (fun s11 s12 s13 wx => ∃ i j k : Nat, i ≤ mid ∧ mid ≤ j ∧ j ≤ hi' ∧ k + mid = i + j ∧ s11 = .int .i64 i ∧ s12 = .int .i64 j ∧ s13 = .int .i64 k ∧ ∃ O zs, Hid (Blk wx ga 9 (sv A) ∧ Blk wx gb 9 (sv O ++ zs) ∧ O.length = k ∧ k + zs.length = n ∧ O ++ List.merge (seg A i mid) (seg A j hi') leS = bl ++ mg A lo mid hi' ∧ Below w.heap.size w wx)) (fun _ _ s13 _ => hi' - (intOf s13).toNat)
            case atStart => exact ⟨lo, mid, lo, by omega, by omega, by omega, by omega, rfl, rfl, rfl, bl, ys, HS0.out.2.2.2.1, HS0.out.1, HS0.out.2.1, by have := HS0.out; omega, rfl, HS0.out.2.2.2.2⟩
            case round =>
              obtain ⟨i, j, k, e1, e2, e3, hijk, rfl, rfl, rfl, O, zs, HO⟩ := hrel
              have e4 : k + mid ≤ i + j := by omega
              have e5 : i + j ≤ k + mid := by omega
              clear hijk
              by_cases hkh : k < hi'
              · obtain ⟨u0, d0⟩ := blk_old HO.out.2.1 HO.out.2.2.1 (by have := HO.out; omega)
                have f0 := HO.out.2.1.free k
                have zl : (zs.drop 1).length + (k + 1) = n := by rw [List.length_drop]; have := HO.out; omega
                have HZ : Hid _ := zl
                clear zl
                by_cases him : i < mid
                · obtain ⟨s, hs1, _⟩ := drop_atS (R := A) (j := i) (by rw [HAL.out]; omega)
                  have c1 := blk_get HO.out.1 hs1
                  have g1 : (i : Int) < (mid : Int) := by omega
                  have g1' : (i : Int) < (n : Int) := by omega
                  have dg1 : decide ((i : Int) < (mid : Int)) = true := decide_eq_true g1
                  have HSI : Hid (A[i]? = some s) := hs1
                  clear hs1
                  by_cases hjh : hi' ≤ j
                  · have g2 : (hi' : Int) ≤ (j : Int) := by omega
                    have dg2 : decide ((hi' : Int) ≤ (j : Int)) = true := decide_eq_true g2
                    have hnx := blk_next (s := s) HO.out.2.1 HO.out.2.2.1 (by have := HO.out; omega)
                    have HNX : Hid _ := hnx
                    have HEQ : Hid ((O ++ [s]) ++ List.merge (seg A (i + 1) mid) (seg A j hi') leS = bl ++ mg A lo mid hi') := by show _ = _; rw [← HO.out.2.2.2.2.1, mstep1 him HSI.out hjh, List.append_assoc]; rfl
                    clear hnx
                    go_wp2
                    go_quiet (fail)
                    go_wp2
                    go_roundw
                    case rel => exact ⟨i + 1, j, k + 1, by omega, by omega, by omega, by omega, by go_num, rfl, by go_num, O ++ [s], zs.drop 1, (HO.out.1.other (by exact HI.out.ne) _), HNX.out, by rw [List.length_append, HO.out.2.2.1]; rfl, by have := HZ.out; omega, HEQ.out, (below_drewN' HO.out.2.2.2.2.2 _).setCell (p := ⟨gb, k, none⟩) HI.out.bb _⟩
                    case measure => simp [intOf]; omega
                  · obtain ⟨s2, hs2, _⟩ := drop_atS (R := A) (j := j) (by rw [HAL.out]; omega)
                    have c2 := blk_get HO.out.1 hs2
                    have g2 : ¬ (hi' : Int) ≤ (j : Int) := by omega
                    have g2' : (j : Int) < (n : Int) := by omega
                    have dg2 : decide ((hi' : Int) ≤ (j : Int)) = false := decide_eq_false g2
                    have HSJ : Hid (A[j]? = some s2) := hs2
                    clear hs2
                    have hlw := leS_walk s s2
                    by_cases hls : Op.bytesLess s.toList s2.toList = true
                    · have HLE : Hid (leS s s2 = true) := by show _ = _; rw [← hlw, hls]; rfl
                      clear hlw
                      have hnx := blk_next (s := s) HO.out.2.1 HO.out.2.2.1 (by have := HO.out; omega)
                      have HNX : Hid _ := hnx
                      have HEQ : Hid ((O ++ [s]) ++ List.merge (seg A (i + 1) mid) (seg A j hi') leS = bl ++ mg A lo mid hi') := by show _ = _; rw [← HO.out.2.2.2.2.1, mstep2 him HSI.out (by omega) HSJ.out HLE.out, List.append_assoc]; rfl
                      clear hnx
                      go_wp2
                      go_quiet (fail)
                      go_wp2
                      go_roundw
                      case rel => exact ⟨i + 1, j, k + 1, by omega, by omega, by omega, by omega, by go_num, rfl, by go_num, O ++ [s], zs.drop 1, (HO.out.1.other (by exact HI.out.ne) _), HNX.out, by rw [List.length_append, HO.out.2.2.1]; rfl, by have := HZ.out; omega, HEQ.out, (below_drewN' HO.out.2.2.2.2.2 _).setCell (p := ⟨gb, k, none⟩) HI.out.bb _⟩
                      case measure => simp [intOf]; omega
                    · have hls' : Op.bytesLess s.toList s2.toList = false := by simpa using hls
                      by_cases heq : (s.toList == s2.toList) = true
                      · have HLE : Hid (leS s s2 = true) := by show _ = _; rw [← hlw, hls', heq]; rfl
                        clear hlw hls
                        have hnx := blk_next (s := s) HO.out.2.1 HO.out.2.2.1 (by have := HO.out; omega)
                        have HNX : Hid _ := hnx
                        have HEQ : Hid ((O ++ [s]) ++ List.merge (seg A (i + 1) mid) (seg A j hi') leS = bl ++ mg A lo mid hi') := by show _ = _; rw [← HO.out.2.2.2.2.1, mstep2 him HSI.out (by omega) HSJ.out HLE.out, List.append_assoc]; rfl
                        clear hnx
                        go_wp2
                        go_quiet (fail)
                        go_wp2
                        go_roundw
                        case rel => exact ⟨i + 1, j, k + 1, by omega, by omega, by omega, by omega, by go_num, rfl, by go_num, O ++ [s], zs.drop 1, (HO.out.1.other (by exact HI.out.ne) _), HNX.out, by rw [List.length_append, HO.out.2.2.1]; rfl, by have := HZ.out; omega, HEQ.out, (below_drewN' HO.out.2.2.2.2.2 _).setCell (p := ⟨gb, k, none⟩) HI.out.bb _⟩
                        case measure => simp [intOf]; omega
                      · have heq' : (s.toList == s2.toList) = false := by simpa using heq
                        have HLE : Hid (leS s s2 = false) := by show _ = _; rw [← hlw, hls', heq']; rfl
                        clear hlw hls heq
                        have hnx := blk_next (s := s2) HO.out.2.1 HO.out.2.2.1 (by have := HO.out; omega)
                        have HNX : Hid _ := hnx
                        have HEQ : Hid ((O ++ [s2]) ++ List.merge (seg A i mid) (seg A (j + 1) hi') leS = bl ++ mg A lo mid hi') := by show _ = _; rw [← HO.out.2.2.2.2.1, mstep3 him HSI.out (by omega) HSJ.out HLE.out, List.append_assoc]; rfl
                        clear hnx
                        go_wp2
                        go_quiet (fail)
                        go_wp2
                        go_roundw
                        case rel => exact ⟨i, j + 1, k + 1, by omega, by omega, by omega, by omega, rfl, by go_num, by go_num, O ++ [s2], zs.drop 1, (HO.out.1.other (by exact HI.out.ne) _), HNX.out, by rw [List.length_append, HO.out.2.2.1]; rfl, by have := HZ.out; omega, HEQ.out, (below_drewN' HO.out.2.2.2.2.2 _).setCell (p := ⟨gb, k, none⟩) HI.out.bb _⟩
                        case measure => simp [intOf]; omega
                · obtain ⟨s2, hs2, _⟩ := drop_atS (R := A) (j := j) (by rw [HAL.out]; omega)
                  have c2 := blk_get HO.out.1 hs2
                  have g1 : ¬ (i : Int) < (mid : Int) := by omega
                  have g2' : (j : Int) < (n : Int) := by omega
                  have dg1 : decide ((i : Int) < (mid : Int)) = false := decide_eq_false g1
                  have HSJ : Hid (A[j]? = some s2) := hs2
                  clear hs2
                  have hnx := blk_next (s := s2) HO.out.2.1 HO.out.2.2.1 (by have := HO.out; omega)
                  have HNX : Hid _ := hnx
                  have HEQ : Hid ((O ++ [s2]) ++ List.merge (seg A i mid) (seg A (j + 1) hi') leS = bl ++ mg A lo mid hi') := by show _ = _; rw [← HO.out.2.2.2.2.1, mstep4 (by omega) (by omega) HSJ.out, List.append_assoc]; rfl
                  clear hnx
                  go_wp2
                  go_quiet (fail)
                  go_wp2
                  go_roundw
                  case rel => exact ⟨i, j + 1, k + 1, by omega, by omega, by omega, by omega, rfl, by go_num, by go_num, O ++ [s2], zs.drop 1, (HO.out.1.other (by exact HI.out.ne) _), HNX.out, by rw [List.length_append, HO.out.2.2.1]; rfl, by have := HZ.out; omega, HEQ.out, (below_drewN' HO.out.2.2.2.2.2 _).setCell (p := ⟨gb, k, none⟩) HI.out.bb _⟩
                  case measure => simp [intOf]; omega
              · have HF : Hid (i = mid ∧ j = hi') := by show _ ∧ _; omega
                go_wp2
                go_roundw
                case rel =>
                  obtain ⟨o1, o2, o3, o4, o5, o6⟩ := HO.out
                  rw [HF.out.1, HF.out.2, seg_end (Nat.le_refl _), seg_end (Nat.le_refl _)] at o5
                  have o5' : O = bl ++ mg A lo mid hi' := by simpa using o5
                  have hf := HF.out
                  have hs0 := HS0.out
                  have hq := HQ.out
                  refine ⟨lo + (W + W), by omega, by go_num, O, zs, o1, o2, by omega, by omega, ?_, o6⟩
                  rw [o5', List.append_assoc, ← pass_mg (by omega) HAL.out hln HQ.out.1 HQ.out.2]; exact HM.out.pss
                case measure => simp [intOf]; omega
          · have HF : Hid (bl = pass leS W n A ∧ ys = []) := by
              obtain ⟨m1, m2, m3, m4, m5, m6⟩ := HM.out
              have hA : A.length = n := by rw [HI.out.perm.length_eq]; exact HI.out.len.symm
              rw [List.drop_of_length_le (by omega), pass_nil, List.append_nil] at m5
              exact ⟨m5, List.eq_nil_of_length_eq_zero (by omega)⟩
            go_wp2
            go_meet
            case rel =>
              obtain ⟨m1, m2, m3, m4, m5, m6⟩ := HM.out
              rw [HF.out.1, HF.out.2, List.append_nil] at m2
              exact ⟨m1, m2, m6⟩
      case rest =>
      have HC := hcut
      clear hcut
      go_wp2
      go_roundw
      case rel =>
        obtain ⟨i1, i2, i3, i4, i5, i6, i7, i8, i9⟩ := HI.out
        have hA : A.length = n := by rw [i5.length_eq]; exact i4.symm
        refine ⟨W + W, gb, ga, pass leS W n A, by omega, by omega, by go_num, rfl, rfl, ?_⟩
        exact ⟨i2, i1, fun e => i3 e.symm, i4, (pass_perm leS n A).trans i5, fun k => pass_ch leS leS_trans leS_total (by omega) k n A (by omega) i6, HC.out.2.1, ⟨sv A, HC.out.1, by simpa using hA⟩, HC.out.2.2⟩
      case measure => simp [intOf]; omega
    · go_wp2
      go_ret
      obtain ⟨i1, i2, i3, i4, i5, i6, i7, i8, i9⟩ := HI.out
      have hAn : n = A.length := by rw [i4, i5.length_eq]
      refine ⟨A, _, rfl, ⟨i5, ch_whole leS i6 (by omega), ga, ?_, i1, i7⟩, i9⟩
      show Value.slice (some ⟨ga, 0, none⟩) n n = _
      rw [hAn]

end Go.Proofs.Qxb6617250a
