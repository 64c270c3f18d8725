/-
  THE FIRST LAW: the parts tile the text at the marks.
-/
import Derived.Test.Qxb6617215aShare
namespace Go.Proofs.Qxb6617215a
open Go.RowKit
set_option linter.unusedVariables false

theorem bytes1_yes (T : ByteArray) (a : Option Addr) (l c : Nat) (w : World) (h : T.size + l ≤ 1048576) :
    Calls Try.prog 5 #[.string T, .slice a l c] w fun e w' => e = .returned (.bool true) ∧ w = w' := by
  go_enter Try.func5, Try.ntmps5
  go_wp2
  go_ret
  exact ⟨rfl, rfl⟩
theorem bytes1_no (T : ByteArray) (a : Option Addr) (l c : Nat) (w : World) (h0 : T.size ≤ maxLen) (h1 : l ≤ maxLen) (h : ¬ T.size + l ≤ 1048576) :
    Calls Try.prog 5 #[.string T, .slice a l c] w fun e w' => e = .returned (.bool false) ∧ w = w' := by
  unfold maxLen at h0 h1
  by_cases q0 : T.size ≤ 1048576
  · by_cases q1 : l ≤ 1048576
    all_goals
      go_enter Try.func5, Try.ntmps5
      go_wp2
      go_ret
      exact ⟨rfl, rfl⟩
  · go_enter Try.func5, Try.ntmps5
    go_wp2
    go_ret
    exact ⟨rfl, rfl⟩

/-- The law's state ahead of the j-th part. -/
def OkAt (n len : Nat) (M : Nat → Int) (R : List Part) (j k off : Nat) (v : Value) : Prop := ∃ p, v = .bool p ∧ Ok n len M (R.drop j) k off p
theorem OkAt.intro {n len : Nat} {M : Nat → Int} {R : List Part} {j k off : Nat} {p : Bool} (h : Ok n len M (R.drop j) k off p) : OkAt n len M R j k off (.bool p) := ⟨p, rfl, h⟩
theorem drop_at {R : List Part} {j : Nat} (h : j < R.length) : ∃ a b f, R[j]? = some (a, b, f) ∧ R.drop j = (a, b, f) :: R.drop (j + 1) := by
  refine ⟨R[j].1, R[j].2.1, R[j].2.2, by rw [List.getElem?_eq_getElem h], ?_⟩
  rw [List.drop_eq_getElem_cons h]
theorem nonempty_cut {T : ByteArray} {a m : Nat} (h : a + m ≤ T.size) (hm : 0 < m) : (T.extract a (a + m)).toList.isEmpty = false := by
  cases h' : (T.extract a (a + m)).toList with
  | nil =>
    have h1 : (T.extract a (a + m)).size = m := by rw [ByteArray.size_extract]; omega
    rw [ByteArray.toList_eq] at h'
    have h2 : (T.extract a (a + m)).data.toList.length = 0 := by rw [h']; rfl
    have h3 : (T.extract a (a + m)).size = 0 := by rw [← h2, Array.length_toList]; rfl
    omega
  | cons x r => rfl
theorem size_cut {T : ByteArray} {a m : Nat} (h : a + m ≤ T.size) : (T.extract a (a + m)).size = m := by
  rw [ByteArray.size_extract]; omega
theorem length_tp {n len : Nat} {M : Nat → Int} : ∀ f i a, len ≤ i + f → i ≤ len → len % 2 = 0 → i % 2 = 0 → (tp n len M f i a).length ≤ (len - i) + 1 := by
  intro f
  induction f with
  | zero => intro i a _ _ _ _; have := length_tail n a; show (tail n a).length ≤ _; omega
  | succ f ih =>
    intro i a h1 h2 h3 h4
    by_cases h : i < len ∧ M i < (n : Int)
    · rw [tp_go h.1 h.2]
      have := ih (i + 2) (fin n (M (i + 1))) (by omega) (by omega) h3 (by omega)
      have := length_gap a (M i)
      simp
      omega
    · rw [tp_stop h]
      have := length_tail n a
      omega

set_option maxRecDepth 100000 in
set_option maxHeartbeats 8000000 in
theorem tile_pos (T : ByteArray) (a1 : Option Addr) (len cap1 : Nat) (z1 : List Int) (w : World) (w1 : IsRow .i64 w a1 len cap1 z1) (hn : T.size ≤ 65536) (hl : len ≤ 65536) (hT : Turn len (fun i => z1.getD i 0)) (hl0 : 0 < len) :
    Calls Try.prog 3 #[.string T, .slice a1 len cap1] w fun e w' => e = .returned (.bool true) ∧ Below w.heap.size w w' := by
  obtain ⟨i0, hi, hz0, hz1, hz2⟩ := info_parts info3
  have hne := fun wx a n c => run_neq_slice_nil_any (P := Try.prog) wx 22 3 a n c 0 0 Try.underlying22
  have HTC : Hid (Calls Try.prog 6 #[.slice a1 len cap1] w fun e w' => e = .returned (.bool true) ∧ Below w.heap.size w w') := turn_yes w1 hl hT
  have HT : Hid (Turn len (fun i => z1.getD i 0)) := hT
  clear hT
  go_enter Try.func3, Try.ntmps3
  go_upto_if 28 with (first | (go_at_call 5; refine (bytes1_yes _ _ _ _ _ (by omega)).mono ?_; rintro e w' ⟨rfl, rfl⟩) | (go_at_call 6; refine Calls.mono HTC.out ?_; rintro e w2 ⟨rfl, hb2⟩))
  clear HTC
  have hz22 := hb2.size
  go_cut [1] (fun s1 wc => Mine w.heap.size wc s1 len (fun i => z1.getD i 0) ∧ Below w.heap.size w wc)
  case first =>
    rcases w1 with ⟨rfl, rfl, rfl, rfl⟩ | ⟨x, rfl, h1, h2, h3, h4, h5⟩
    · omega
    · obtain ⟨X, hX⟩ : ∃ X, X = (z1.take len).map (Value.int .i64) := ⟨_, rfl⟩
      have hXl : X.length = len := by rw [hX]; simp; omega
      have hXs : ∀ w5, Below w.heap.size w w5 → ∀ j v, X[j]? = some v → w5.cell? (x.add j) = some v := by rw [hX]; intro w5 hb5; exact src_cells (by omega) h4 hb5
      have hX1 : ∀ v ∈ X, v.oneCell' = true := by rw [hX]; exact ints_oneCell _ _
      have HX : Hid (X = (z1.take len).map (Value.int .i64)) := hX
      clear hX h4 h5
      go_wp2_with (first | (at_make; refine wpList_make_full _ rfl _ _ 22 rfl w.heap.size 3 i0 _ 1 Try.underlying22 hi hz0 hz1 .i64 .i64 len len len rfl rfl rfl rfl (by rw [hz2]; omega) (by unfold maxLen; omega) hz22 ?_; intro w5 hown hgr; have hB5 : Below w.heap.size w w5 := hb2.grown hgr hz22 (fun k hk => by cases hk); obtain ⟨b5, bl5, _⟩ := Blk.made hown rfl; clear hown hgr) | (refine wpList_copy_all rfl (.tmp 32) (.tmp 33) 22 22 rfl 3 Try.underlying22 (by kernel_rfl) w2.heap.size len x cap1 rfl rfl _ 3 b5 (by simpa using bl5) X hXl (hXs _ hB5) hX1 w.heap.size w hB5 hz22 ?_; intro w6 HG6 hB7))
      go_meet
      case rel => exact ⟨mine_of_blk hz22 (by omega) (by rw [← HX.out]; exact HG6.out), hB7⟩
  case rest =>
    obtain ⟨⟨g0, rfl, hg⟩, hbc⟩ := hcut
    have hzc := hbc.size
    obtain ⟨M, hM⟩ : ∃ M : Nat → Int, M = fun i => z1.getD i 0 := ⟨_, rfl⟩
    rw [← hM] at HT
    have HMI : Hid (Mine w.heap.size wc (.slice g0 len len) len M) := by rw [hM]; exact ⟨g0, rfl, hg⟩
    clear hM hg w1 hi hz0 hz1 hz2 hne hb2 hz22
    obtain ⟨R, hR⟩ : ∃ R, R = tp T.size len M len 0 0 := ⟨_, rfl⟩
    have HCT := zzparts_mine T (by omega) hl HT.out HMI.out
    rw [← hR] at HCT
    have HOK : Hid (Ok T.size len M R 0 0 false) := by rw [hR]; exact ok_tp HT.out len 0 0 (by omega) rfl (by omega) (fun h => by have := HT.out.2.1 h; omega)
    have HRL : Hid (R.length ≤ 65537) := by rw [hR]; exact Nat.le_trans (length_tp len 0 0 (by omega) (by omega) HT.out.1 rfl) (by omega)
    have HCT2 : Hid _ := HCT
    clear HCT hR
    go_upto_region 14 with (go_at_call 7; refine Calls.mono HCT2.out ?_; rintro e w7 ⟨g, cap, rfl, HL, _, hb7⟩)
    clear HCT2
    have hbd := hbc.trans (hb7.mono hzc)
    have hrl := HRL.out
    obtain ⟨g0', hg0, hg⟩ := HMI.out
    injection hg0 with hg0
    subst hg0
    obtain ⟨g1, rfl, hg1, hg2, hg3⟩ := hg hl0
    have HC : Hid (∀ i, i < len → w7.cell? ⟨g1, i, none⟩ = some (.int .i64 (M i))) := fun i hi => (hb7.cell (by exact hg2)).trans (hg3 i hi)
    clear hg hg3 HMI hb7
    go_wp2
    go_loop [8, 9, 10, 11] (fun s8 s9 s10 s11 => ∃ j k off : Nat, j ≤ R.length ∧ k ≤ len ∧ off ≤ T.size ∧ s8 = .int .i64 k ∧ s9 = .int .i64 off ∧ s11 = .int .i64 j ∧ OkAt T.size len M R j k off s10) (fun _ _ _ s11 => R.length - (intOf s11).toNat)
    case atStart => exact ⟨0, 0, 0, Nat.zero_le _, Nat.zero_le _, Nat.zero_le _, rfl, rfl, rfl, OkAt.intro HOK.out⟩
    case round =>
      obtain ⟨j, k, off, hj, hk, hoff, rfl, rfl, rfl, p, rfl, hok⟩ := hrel
      by_cases hlt : j < R.length
      · obtain ⟨a, b, f, hRj, hdr⟩ := drop_at hlt
        obtain ⟨c1, c2⟩ := HL.out.2.2 j a b f hRj
        rw [hdr] at hok
        clear hdr hRj
        cases f
        · obtain ⟨rfl, o2, o3, rfl, o5⟩ := hok
          have HO : Hid (Ok T.size len M (R.drop (j + 1)) k b true) := o5
          clear o5
          obtain ⟨m, rfl⟩ : ∃ m, b = a + m := ⟨b - a, by omega⟩
          have hsz : (T.extract a (a + m)).size = m := size_cut (by omega)
          have hne0 : (T.extract a (a + m)).toList.isEmpty = false := nonempty_cut (by omega) (by omega)
          go_wp2
          go_round
          case rel => exact ⟨j + 1, k, a + m, by omega, hk, by omega, rfl, by go_num, by go_num, OkAt.intro HO.out⟩
          case measure => simp [intOf]; omega
        · obtain ⟨rfl, o2, o3, o4, o5, o6, o7, o8⟩ := hok
          have HO : Hid (Ok T.size len M (R.drop (j + 1)) (k + 2) b false) := o8
          clear o8
          obtain ⟨m, rfl⟩ : ∃ m, b = a + m := ⟨b - a, by omega⟩
          have hsz : (T.extract a (a + m)).size = m := size_cut (by omega)
          have c3 : w7.cell? ⟨g1, k, none⟩ = some (.int .i64 (a : Int)) := by rw [← o6]; exact HC.out k (by omega)
          have b1 : (k : Int) < (len : Int) := by omega
          have b2 : (k : Int) + 1 < (len : Int) := by omega
          rw [o6] at o5
          clear o6
          by_cases hen : (T.size : Int) < M (k + 1)
          · have c4 : w7.cell? ⟨g1, k + 1, none⟩ = some (.int .i64 (M (k + 1))) := HC.out (k + 1) (by omega)
            have hm : (m : Int) = (T.size : Int) - (a : Int) := by omega
            have hm' : ((m : Int) != (T.size : Int) - (a : Int)) = false := by rw [hm]; simp
            have HM : Hid _ := hm
            clear hm o7
            go_wp2
            go_round
            case rel => exact ⟨j + 1, k + 2, a + m, by omega, by omega, by omega, by go_num, by go_num, by go_num, OkAt.intro HO.out⟩
            case measure => simp [intOf]; omega
          · have c4 : w7.cell? ⟨g1, k + 1, none⟩ = some (.int .i64 ((a : Int) + (m : Int))) := by rw [show (a : Int) + (m : Int) = M (k + 1) by omega]; exact HC.out (k + 1) (by omega)
            have hm' : ((m : Int) != (a : Int) + (m : Int) - (a : Int)) = false := by rw [show (a : Int) + (m : Int) - (a : Int) = m by omega]; simp
            clear o7 hen
            go_wp2
            go_round
            case rel => exact ⟨j + 1, k + 2, a + m, by omega, by omega, by omega, by go_num, by go_num, by go_num, OkAt.intro HO.out⟩
            case measure => simp [intOf]; omega
      · obtain rfl : j = R.length := by omega
        rw [List.drop_length] at hok
        obtain ⟨rfl, o2⟩ := hok
        by_cases hkl : len ≤ k
        · have d1 : decide ((len : Int) ≤ (k : Int)) = true := decide_eq_true (by omega)
          go_wp2
          go_ret
          exact ⟨rfl, hbd⟩
        · have d1 : decide ((len : Int) ≤ (k : Int)) = false := decide_eq_false (by omega)
          have c3 : w7.cell? ⟨g1, k, none⟩ = some (.int .i64 (M k)) := HC.out k (by omega)
          have b1 : (k : Int) < (len : Int) := by omega
          have d2 : (T.size : Int) ≤ M k := by omega
          go_wp2
          go_ret
          exact ⟨rfl, hbd⟩

end Go.Proofs.Qxb6617215a
