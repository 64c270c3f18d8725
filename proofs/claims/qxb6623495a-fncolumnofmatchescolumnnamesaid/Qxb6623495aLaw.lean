/-
  THE LAW.
-/
import Derived.Test.Qxb6623495aName
import Derived.Deep.DeepCutAuto
import Derived.WalkSpells
import Derived.OpenShut
namespace Go.Proofs.Qxb6623495a
open Go.RowKit
set_option linter.unusedVariables false
def IsRow (k : IntKind) (w : World) (a : Option Addr) (len cap : Nat) (zs : List Int) : Prop :=
  (a = none ∧ len = 0 ∧ cap = 0 ∧ zs = []) ∨
  ∃ x, a = some x ∧ len ≤ cap ∧ cap ≤ maxLen ∧ zs.length = cap ∧ (∀ i, i < zs.length → w.cell? (x.add i) = some (.int k (zs.getD i 0))) ∧ ∀ n ∈ zs, (Lit.int k n).wf = true

theorem World.lt_of_cell {w : World} {p : Addr} {v : Value} (h : w.cell? p = some v) : p.block < w.heap.size := by
  unfold World.cell? at h
  rcases Nat.lt_or_ge p.block w.heap.size with h' | h'
  · exact h'
  · rw [Array.getElem?_eq_none h'] at h; cases h

theorem IsRow.len_le {k : IntKind} {w : World} {a : Option Addr} {len cap : Nat} {zs : List Int} (h : IsRow k w a len cap zs) : len ≤ maxLen := by
  rcases h with ⟨_, rfl, _⟩ | ⟨x, _, h1, h2, _⟩
  · unfold maxLen; omega
  · omega

theorem info5 : (Try.prog.info? 5).map (fun i => (i.zero, i.size, i.bytes)) = some (some (.int .u8 0), 1, 1) := by kernel_rfl

def Mine (B : Nat) (w : World) (v : Value) (n : Nat) (F : Nat → Int) : Prop :=
  ∃ a, v = .slice a n n ∧ (0 < n → ∃ g, a = some ⟨g, 0, none⟩ ∧ B ≤ g ∧ g < w.heap.size ∧ ∀ i, i < n → w.cell? ⟨g, i, none⟩ = some (.int .u8 (F i)))

theorem Mine.keep {B : Nat} {w w' : World} {v : Value} {n : Nat} {F : Nat → Int} (h : Mine B w v n F) (hb : Below w.heap.size w w') : Mine B w' v n F := by
  obtain ⟨a, hv, h⟩ := h
  refine ⟨a, hv, fun hn => ?_⟩
  obtain ⟨g, h1, h2, h3, h4⟩ := h hn
  exact ⟨g, h1, h2, Nat.lt_of_lt_of_le h3 hb.size, fun i hi => (hb.cell (by exact h3)).trans (h4 i hi)⟩

theorem mine_of_blk {B : Nat} {w : World} {g : Nat} {n : Nat} {zs : List Int} (hB : B ≤ g) (hz : n ≤ zs.length) (h : Blk w g 5 ((zs.take n).map (Value.int .u8))) :
    Mine B w (.slice (some ⟨g, 0, none⟩) n n) n (fun i => zs.getD i 0) := by
  refine ⟨_, rfl, fun hn => ⟨g, rfl, hB, h.lt, fun i hi => ?_⟩⟩
  rw [h.cell]
  simp [hi, List.getElem?_eq_getElem (show i < zs.length by omega)]
theorem src_cells {w w5 : World} {x : Addr} {zs : List Int} {n : Nat} (hn : n ≤ zs.length) (h4 : ∀ i, i < zs.length → w.cell? (x.add i) = some (Value.int .u8 (zs.getD i 0))) (hb : Below w.heap.size w w5) :
    ∀ j v, ((zs.take n).map (Value.int .u8))[j]? = some v → w5.cell? (x.add j) = some v := by
  intro j v hj
  have hl : j < ((zs.take n).map (Value.int .u8)).length := by
    rcases Nat.lt_or_ge j ((zs.take n).map (Value.int .u8)).length with h | h
    · exact h
    · rw [List.getElem?_eq_none h] at hj; cases hj
  have hl' : j < n := by simp at hl; omega
  have hc := h4 j (by omega)
  have hv : v = .int .u8 (zs.getD j 0) := by
    rw [List.getElem?_eq_getElem hl] at hj
    injection hj with hj
    rw [← hj]
    simp [List.getElem?_eq_getElem (show j < zs.length by omega)]
  rw [hv, ← hc]
  refine hb.cell ?_
  have := World.lt_of_cell hc
  exact this

theorem upper_yes (b off n c k : Nat) (f : Nat → Int) (w : World) (hn : n ≤ 65536) (hk : k ≤ n) (hk3 : k ≤ 3) (hb : ∀ i, i < n → 0 ≤ f i ∧ f i ≤ 255)
    (hc : ∀ i, i < n → w.cell? ⟨b, off + i, none⟩ = some (.int .u8 (f i))) (hU : ∀ j, j < k → U f j) :
    Calls Try.prog 6 #[.slice (some ⟨b, off, none⟩) n c, .int .i64 k] w fun e w' => e = .returned (.bool true) ∧ w = w' := by
  refine (upper_any b off n c k f w hn hk hk3 hb hc).mono ?_
  rintro e w' ⟨⟨r, rfl, hr⟩, rfl⟩
  rw [hr.2 hU]
  exact ⟨rfl, rfl⟩
theorem upper_no (b off n c k : Nat) (f : Nat → Int) (w : World) (hn : n ≤ 65536) (hk : k ≤ n) (hk3 : k ≤ 3) (hb : ∀ i, i < n → 0 ≤ f i ∧ f i ≤ 255)
    (hc : ∀ i, i < n → w.cell? ⟨b, off + i, none⟩ = some (.int .u8 (f i))) (hU : ¬ ∀ j, j < k → U f j) :
    Calls Try.prog 6 #[.slice (some ⟨b, off, none⟩) n c, .int .i64 k] w fun e w' => e = .returned (.bool false) ∧ w = w' := by
  refine (upper_any b off n c k f w hn hk hk3 hb hc).mono ?_
  rintro e w' ⟨⟨r, rfl, hr⟩, rfl⟩
  cases r
  · exact ⟨rfl, rfl⟩
  · exact absurd (hr.1 rfl) hU
theorem digit_yes (x : Int) (w : World) (h : 0 ≤ x ∧ x ≤ 255) (hd : 48 ≤ x ∧ x ≤ 57) :
    Calls Try.prog 7 #[.int .u8 x] w fun e w' => e = .returned (.bool true) ∧ w = w' := by
  refine (digit_any x w h).mono ?_
  rintro e w' ⟨⟨r, rfl, hr⟩, rfl⟩
  rw [hr.2 hd]
  exact ⟨rfl, rfl⟩
theorem digit_no (x : Int) (w : World) (h : 0 ≤ x ∧ x ≤ 255) (hd : ¬ (48 ≤ x ∧ x ≤ 57)) :
    Calls Try.prog 7 #[.int .u8 x] w fun e w' => e = .returned (.bool false) ∧ w = w' := by
  refine (digit_any x w h).mono ?_
  rintro e w' ⟨⟨r, rfl, hr⟩, rfl⟩
  cases r
  · exact ⟨rfl, rfl⟩
  · exact absurd (hr.1 rfl) hd

set_option maxRecDepth 100000 in
set_option maxHeartbeats 2000000 in
theorem law_fit (a0 : Option Addr) (n cap0 : Nat) (z0 : List Int) (w : World) (w0 : IsRow .u8 w a0 n cap0 z0) (hl0 : n ≤ 65536) :
    Calls Try.prog 3 #[.slice a0 n cap0] w fun e w' => e = .returned (.bool true) ∧ Below w.heap.size w w' := by
  obtain ⟨i0, hi, hz0, hz1, hz2⟩ := info_parts info5
  have hne := fun wx a n c => run_neq_slice_nil_any (P := Try.prog) wx 22 5 a n c 0 0 Try.underlying22
  have hfb : ∀ i, i < n → 0 ≤ z0.getD i 0 ∧ z0.getD i 0 ≤ 255 := by
    intro i hi
    rcases w0 with ⟨_, h, _⟩ | ⟨x, _, h1, h2, h3, h4, h5⟩
    · omega
    · have := h5 (z0.getD i 0) (by rw [List.getD_eq_getElem?_getD, List.getElem?_eq_getElem (by omega)]; simp)
      exact bounds_u8 this
  have HFB : Hid (∀ i, i < n → 0 ≤ z0.getD i 0 ∧ z0.getD i 0 ≤ 255) := hfb
  clear hfb
  go_enter Try.func3, Try.ntmps3
  go_upto_if 13 with (go_at_call 4; refine (bytes_yes _ _ _ _ (by omega)).mono ?_; rintro e w' ⟨rfl, rfl⟩)
  go_cut [0] (fun s0 wc => Mine w.heap.size wc s0 n (fun i => z0.getD i 0) ∧ Below w.heap.size w wc)
  case first =>
    rcases w0 with ⟨rfl, rfl, rfl, rfl⟩ | ⟨x, rfl, h1, h2, h3, h4, h5⟩
    · go_wp2
      go_meet
      case rel => exact ⟨⟨none, rfl, fun h => absurd h (by omega)⟩, Below.refl _ _⟩
    · obtain ⟨X, hX⟩ : ∃ X, X = (z0.take n).map (Value.int .u8) := ⟨_, rfl⟩
      have hXl : X.length = n := by rw [hX]; simp; omega
      have hXs : ∀ w5, Below w.heap.size w w5 → ∀ j v, X[j]? = some v → w5.cell? (x.add j) = some v := by rw [hX]; intro w5 hb5; exact src_cells (by omega) h4 hb5
      have hX1 : ∀ v ∈ X, v.oneCell' = true := by rw [hX]; exact ints_oneCell _ _
      have HX : Hid (X = (z0.take n).map (Value.int .u8)) := hX
      clear hX h4 h5
      go_wp2_with (first | (at_make; refine wpList_make_full _ rfl _ _ 22 rfl w.heap.size 5 i0 _ 1 Try.underlying22 hi hz0 hz1 .i64 .i64 n n n rfl rfl rfl rfl (by rw [hz2]; omega) (by unfold maxLen; omega) (Nat.le_refl _) ?_; intro w5 hown hgr; have hB5 : Below w.heap.size w w5 := (Below.refl _ _).grown hgr (Nat.le_refl _) (fun k hk => by cases hk); obtain ⟨b5, bl5, _⟩ := Blk.made hown rfl; clear hown hgr) | (refine wpList_copy_all rfl (.tmp 17) (.tmp 18) 22 22 rfl 5 Try.underlying22 (by kernel_rfl) w.heap.size n x cap0 rfl rfl _ 5 b5 (by simpa using bl5) X hXl (hXs _ hB5) hX1 w.heap.size w hB5 (Nat.le_refl _) ?_; intro w6 HG6 hB7))
      go_meet
      case rel => exact ⟨mine_of_blk (Nat.le_refl _) (by omega) (by rw [← HX.out]; exact HG6.out), hB7⟩
  case rest =>
    obtain ⟨⟨g0, rfl, hg⟩, hbc⟩ := hcut
    have hzc := hbc.size
    obtain ⟨f, hf⟩ : ∃ f : Nat → Int, f = fun i => z0.getD i 0 := ⟨_, rfl⟩
    have HFB2 : Hid (∀ i, i < n → 0 ≤ f i ∧ f i ≤ 255) := by rw [hf]; exact HFB.out
    replace hg : 0 < n → ∃ g, g0 = some ⟨g, 0, none⟩ ∧ w.heap.size ≤ g ∧ g < wc.heap.size ∧ ∀ i, i < n → wc.cell? ⟨g, i, none⟩ = some (.int .u8 (f i)) := by rw [hf]; exact hg
    clear hf HFB w0 hi hz0 hz1 hz2 hne
    by_cases hn0 : 0 < n
    · obtain ⟨g, rfl, hg1, hg2, hg3⟩ := hg hn0
      have HC : Hid (∀ i, i < n → wc.cell? ⟨g, 0 + i, none⟩ = some (.int .u8 (f i))) := fun i hi => by rw [Nat.zero_add]; exact hg3 i hi
      clear hg hg3
      go_upto_region 10 with (first | (go_at_call 9; refine (columnOf_any g 0 n n f _ hl0 HFB2.out HC.out).mono ?_; rintro e w' ⟨r, rfl, hr, rfl⟩) | go_in)
      rcases hr with ⟨l0, hh, rfl⟩ | ⟨hno, rfl⟩
      · obtain ⟨q1, q2, q3, q4, q5⟩ := hh
        have HU : Hid (∀ j, j < l0 → U f j) := q4
        have HD : Hid (D f l0) := q5
        have cb := colv_bd f l0 q2 q4
        have cb1 : 0 < colv f l0 := cb.2.2.1 (by omega)
        have cb2 : colv f l0 ≤ 18278 := cb.2.1
        clear q4 q5 cb
        go_wp2
        go_loopw [5] (fun i wr => ∃ k : Nat, 1 ≤ k ∧ k ≤ l0 ∧ i = .int .i64 k ∧ wc = wr) (fun i _ => 3 - (intOf i).toNat)
        case atStart => exact ⟨1, by omega, by omega, rfl, rfl⟩
        case round =>
          obtain ⟨k, hk1, hk2, rfl, rfl⟩ := hrel
          have c1 : wc.cell? ⟨g, k, none⟩ = some (.int .u8 (f k)) := by have := HC.out k (by omega); rwa [Nat.zero_add] at this
          by_cases hlt : k < l0
          · go_wp2_with (first | (go_at_call 6; refine (upper_yes g 0 n n k f _ hl0 (by omega) (by omega) HFB2.out HC.out (fun j hj => HU.out j (by omega))).mono ?_; rintro e w' ⟨rfl, rfl⟩) | (go_at_call 7; refine (digit_no (f k) _ (HFB2.out k (by omega)) (by have := HU.out k hlt; unfold U at this; omega)).mono ?_; rintro e w' ⟨rfl, rfl⟩))
            go_roundw
            case rel => first | exact ⟨k + 1, by omega, by omega, by go_num, rfl⟩ | exact ⟨k + 1, by omega, by omega, by go_num, trivial⟩ | ((repeat apply Exists.intro); first | exact ⟨⟨k + 1, by omega, by omega, by go_num, rfl⟩, rfl⟩ | exact ⟨⟨k + 1, by omega, by omega, by go_num, trivial⟩, rfl⟩)
            case measure => simp [intOf]; omega
          · obtain rfl : k = l0 := by omega
            go_wp2_with (first | (go_at_call 6; refine (upper_yes g 0 n n k f _ hl0 (by omega) (by omega) HFB2.out HC.out (fun j hj => HU.out j (by omega))).mono ?_; rintro e w' ⟨rfl, rfl⟩) | (go_at_call 7; refine (digit_yes (f k) _ (HFB2.out k (by omega)) HD.out).mono ?_; rintro e w' ⟨rfl, rfl⟩) | (go_at_call 8; refine (name_any g 0 n n k f _ hl0 HFB2.out HC.out hg2 hk1 q2 q3 HU.out).mono ?_; rintro e w7 ⟨rfl, hb7⟩))
            go_ret
            exact ⟨rfl, hbc.trans (hb7.mono hzc)⟩
      · have HNO : Hid (¬ ∃ l, Hit f n l) := hno
        clear hno
        go_wp2
        go_loopw [5] (fun i wr => ∃ k : Nat, 1 ≤ k ∧ k ≤ 4 ∧ i = .int .i64 k ∧ wc = wr) (fun i _ => 4 - (intOf i).toNat)
        case atStart => exact ⟨1, by omega, by omega, rfl, rfl⟩
        case round =>
          obtain ⟨k, hk1, hk2, rfl, rfl⟩ := hrel
          by_cases hlt : k ≤ 3
          · by_cases hkn : k < n
            · have c1 : wc.cell? ⟨g, k, none⟩ = some (.int .u8 (f k)) := by have := HC.out k (by omega); rwa [Nat.zero_add] at this
              by_cases hup : ∀ j, j < k → U f j
              · have HU : Hid (∀ j, j < k → U f j) := hup
                clear hup
                go_wp2_with (first | (go_at_call 6; refine (upper_yes g 0 n n k f _ hl0 (by omega) (by omega) HFB2.out HC.out HU.out).mono ?_; rintro e w' ⟨rfl, rfl⟩) | (go_at_call 7; refine (digit_no (f k) _ (HFB2.out k (by omega)) (fun h => HNO.out ⟨k, hk1, hlt, hkn, HU.out, h⟩)).mono ?_; rintro e w' ⟨rfl, rfl⟩))
                go_roundw
                case rel => first | exact ⟨k + 1, by omega, by omega, by go_num, rfl⟩ | exact ⟨k + 1, by omega, by omega, by go_num, trivial⟩ | ((repeat apply Exists.intro); first | exact ⟨⟨k + 1, by omega, by omega, by go_num, rfl⟩, rfl⟩ | exact ⟨⟨k + 1, by omega, by omega, by go_num, trivial⟩, rfl⟩)
                case measure => simp [intOf]; omega
              · have HU : Hid (¬ ∀ j, j < k → U f j) := hup
                clear hup
                go_wp2_with (go_at_call 6; refine (upper_no g 0 n n k f _ hl0 (by omega) (by omega) HFB2.out HC.out HU.out).mono ?_; rintro e w' ⟨rfl, rfl⟩)
                go_roundw
                case rel => first | exact ⟨k + 1, by omega, by omega, by go_num, rfl⟩ | exact ⟨k + 1, by omega, by omega, by go_num, trivial⟩ | ((repeat apply Exists.intro); first | exact ⟨⟨k + 1, by omega, by omega, by go_num, rfl⟩, rfl⟩ | exact ⟨⟨k + 1, by omega, by omega, by go_num, trivial⟩, rfl⟩)
                case measure => simp [intOf]; omega
            · go_wp2_with fail
              go_roundw
              case rel => first | exact ⟨k + 1, by omega, by omega, by go_num, rfl⟩ | exact ⟨k + 1, by omega, by omega, by go_num, trivial⟩ | ((repeat apply Exists.intro); first | exact ⟨⟨k + 1, by omega, by omega, by go_num, rfl⟩, rfl⟩ | exact ⟨⟨k + 1, by omega, by omega, by go_num, trivial⟩, rfl⟩)
              case measure => simp [intOf]; omega
          · go_wp2
            go_ret
            exact ⟨rfl, hbc⟩
    · obtain rfl : n = 0 := by omega
      clear hg
      go_upto_region 10 with (first | (go_at_call 9; refine (columnOf_none g0 0 f _).mono ?_; rintro e w' ⟨r, rfl, hr, rfl⟩) | go_in)
      rcases hr with ⟨l0, hh, rfl⟩ | ⟨hno, rfl⟩
      · exact absurd hh.2.2.1 (by omega)
      · clear hno
        go_wp2
        go_loopw [5] (fun i wr => ∃ k : Nat, 1 ≤ k ∧ k ≤ 4 ∧ i = .int .i64 k ∧ wc = wr) (fun i _ => 4 - (intOf i).toNat)
        case atStart => exact ⟨1, by omega, by omega, rfl, rfl⟩
        case round =>
          obtain ⟨k, hk1, hk2, rfl, rfl⟩ := hrel
          by_cases hlt : k ≤ 3
          · go_wp2_with fail
            go_roundw
            case rel => exact ⟨k + 1, by omega, by omega, by omega⟩
            case measure => simp [intOf]; omega
          · go_wp2
            go_ret
            exact ⟨rfl, hbc⟩

theorem law_any (a0 : Option Addr) (len0 cap0 : Nat) (z0 : List Int) (w : World) (w0 : IsRow .u8 w a0 len0 cap0 z0) :
    Calls Try.prog 3 #[.slice a0 len0 cap0] w fun e w' => e = .returned (.bool true) ∧ Below w.heap.size w w' := by
  by_cases h1 : len0 ≤ 65536
  · exact law_fit a0 len0 cap0 z0 w w0 h1
  · have hm := w0.len_le
    by_cases h2 : len0 ≤ 1048576
    · go_enter Try.func3, Try.ntmps3
      go_wp2_with (go_at_call 4; refine (bytes_yes _ _ _ _ h2).mono ?_; rintro e w' ⟨rfl, rfl⟩)
      go_ret
      exact ⟨rfl, Below.refl _ _⟩
    · go_enter Try.func3, Try.ntmps3
      go_wp2_with (go_at_call 4; refine (bytes_no _ _ _ _ hm h2).mono ?_; rintro e w' ⟨rfl, rfl⟩)
      go_ret
      exact ⟨rfl, Below.refl _ _⟩
end Go.Proofs.Qxb6623495a
