/-
  'give': the lowest eligible shard turns.
-/
import Derived.Test.Qxb6617250aSays
import Derived.Test.Qxb6617250aShelf
import Derived.Sort.OwnSorted
import Derived.Deep.DeepCutAuto
import Derived.Deep.CutBlock
namespace Go.Proofs.Qxb6617250a
open Go.RowKit
set_option linter.unusedVariables false

/-! ### Index, Contains, Sort, at a row -/
theorem idx_no {d : ByteArray} {R : List ByteArray} (h : cntS d R = 0) : Lib.idxOfS R d = -1 := by
  have := Lib.idxOfS_miss R R.length d (fun j hj e => cnt_zero.1 h (by rw [← e, List.getD_eq_getElem?_getD, List.getElem?_eq_getElem hj]; exact List.getElem_mem hj))
  rwa [List.take_length] at this
theorem idx_yes {d : ByteArray} : ∀ {R : List ByteArray}, 0 < cntS d R → ∃ k : Nat, R[k]? = some d ∧ ∀ j, j < k → R.getD j ByteArray.empty ≠ d := by
  intro R
  induction R with
  | nil => intro h; simp [cntS] at h
  | cons s r ih =>
    intro h
    by_cases e : s = d
    · exact ⟨0, by simp [e], fun j hj => absurd hj (by omega)⟩
    · obtain ⟨k, h1, h2⟩ := ih (by simpa [cntS, e] using h)
      refine ⟨k + 1, by simpa using h1, fun j hj => ?_⟩
      rcases j with _ | j
      · simpa using e
      · simpa using h2 j (by omega)
theorem idx_at {d : ByteArray} {R : List ByteArray} (h : 0 < cntS d R) : ∃ k : Nat, Lib.idxOfS R d = (k : Int) ∧ R[k]? = some d := by
  obtain ⟨k, h1, h2⟩ := idx_yes h
  have hk : k < R.length := (List.getElem?_eq_some_iff.1 h1).1
  refine ⟨k, ?_, h1⟩
  have := Lib.idxOfS_hit R R.length k d hk (Nat.le_refl _) (by simp [List.getD_eq_getElem?_getD, h1]) h2
  rwa [List.take_length] at this
theorem has_no {d : ByteArray} {R : List ByteArray} (h : cntS d R = 0) : Lib.containsS R d = false := by
  rw [← Bool.not_eq_true, Lib.containsS_iff]
  exact cnt_zero.1 h
theorem has_yes {d : ByteArray} {R : List ByteArray} (h : 0 < cntS d R) : Lib.containsS R d = true := (Lib.containsS_iff R d).2 (cnt_pos.1 h)

theorem index_any (v : Value) (R : List ByteArray) (x : ByteArray) (w : World) (h : SR w v R) (hl : R.length ≤ 65536) :
    Calls Try.prog 19 #[v, .string x] w fun e w' => e = .returned (.int .i64 (Lib.idxOfS R x)) ∧ w' = w := by
  obtain ⟨a, cap, rfl, h⟩ := h
  by_cases h0 : R = []
  · subst h0
    exact Try.slices_Index_string_empty a cap x w
  · have h1 : 0 < R.length := List.length_pos_iff.2 h0
    obtain ⟨b, off, rfl, h2, h3⟩ := h h1
    have := Try.slices_Index_string b off R.length cap R x w (Nat.le_refl _) (by omega) (fun j hj => h3 j _ (by rw [List.getD_eq_getElem?_getD, List.getElem?_eq_getElem hj]; rfl))
    rwa [List.take_length] at this
theorem contains_any (v : Value) (R : List ByteArray) (x : ByteArray) (w : World) (h : SR w v R) (hl : R.length ≤ 65536) :
    Calls Try.prog 20 #[v, .string x] w fun e w' => e = .returned (.bool (Lib.containsS R x)) ∧ w' = w := by
  obtain ⟨a, cap, rfl, h⟩ := h
  by_cases h0 : R = []
  · subst h0
    have := Try.slices_Contains_string_empty a cap x w
    rwa [show false = Lib.containsS [] x from (has_no (by rfl)).symm] at this
  · have h1 : 0 < R.length := List.length_pos_iff.2 h0
    obtain ⟨b, off, rfl, h2, h3⟩ := h h1
    have := Try.slices_Contains_string b off R.length cap R x w (Nat.le_refl _) (by omega) (fun j hj => h3 j _ (by rw [List.getD_eq_getElem?_getD, List.getElem?_eq_getElem hj]; rfl))
    rwa [List.take_length] at this

def low (S : List ByteArray) : List (List UInt8) := S.map fun s => s.data.toList
theorem low_enc (S : List ByteArray) : (low S).map encStr = sv S := by
  unfold low sv
  rw [List.map_map]
  exact List.map_congr_left (fun s _ => rfl)
theorem pair_mono {l : List (List UInt8)} {p q : List UInt8 → List UInt8 → Prop} (h : l.Pairwise p) (hpq : ∀ a b, p a b → q a b) : l.Pairwise q := by
  induction l with
  | nil => exact List.Pairwise.nil
  | cons a l ih =>
    rw [List.pairwise_cons] at h ⊢
    exact ⟨fun b hb => hpq a b (h.1 b hb), ih h.2⟩
theorem low_sort (S : List ByteArray) : (low S).mergeSort (fun x y => decide (x ≤ y)) = low (srt S) := by
  have hp : (((low S).mergeSort fun x y => decide (x ≤ y)).map fun b => (⟨b.toArray⟩ : ByteArray)).Perm S := by
    refine ((List.mergeSort_perm (low S) _).map _).trans ?_
    unfold low
    rw [List.map_map]
    have : S.map ((fun b => (⟨b.toArray⟩ : ByteArray)) ∘ fun s => s.data.toList) = S := (List.map_congr_left (fun s _ => rfl)).trans (List.map_id S)
    rw [this]
  have hs : SortedS (((low S).mergeSort fun x y => decide (x ≤ y)).map fun b => (⟨b.toArray⟩ : ByteArray)) := by
    unfold SortedS
    rw [List.pairwise_map]
    have := List.pairwise_mergeSort (le := fun (x y : List UInt8) => decide (x ≤ y)) (fun a b c h1 h2 => by rw [decide_eq_true_eq] at *; exact List.le_trans h1 h2) (fun a b => by rw [Bool.or_eq_true, decide_eq_true_eq, decide_eq_true_eq]; exact List.le_total _ _) (low S)
    exact pair_mono this (fun a b h => by simpa [leS] using h)
  rw [← srt_eq hp hs]
  unfold low
  rw [List.map_map]
  exact ((List.map_congr_left (fun s _ => rfl)).trans (List.map_id _)).symm
theorem sort_block {w : World} {g n : Nat} {os : Array Obj} {S : List ByteArray} (h : Blk w g 9 (sv S)) : Blk (Sort.grow (Sort.putRow encStr (Sort.ahead w n) g 0 (low (srt S)).toArray) os) g 9 (sv (srt S)) := by
  unfold Blk at h ⊢
  rw [heap_sorted _ h]
  congr 2
  have hl : (low (srt S)).length = (sv S).toArray.size := by simp [low, sv, (srt_perm S).length_eq]
  have h1 := take_putCells (sv S).toArray (low (srt S)) (by omega)
  rw [List.take_of_length_le (by simp [Sort.putCells] at hl ⊢; omega), low_enc] at h1
  rw [← h1]
theorem sort_any {w : World} {g n cap : Nat} {S : List ByteArray} (h : Blk w g 9 (sv S)) (hn : n = S.length) (hs : n ≤ 65536) :
    Calls Try.prog 21 #[.slice (some ⟨g, 0, none⟩) n cap] w fun e w' => e = .returned (.tuple #[]) ∧ Hid (Blk w' g 9 (sv (srt S)) ∧ w.grownBy w' (some g)) := by
  have hl : n = (low S).length := by simp [low, hn]
  rw [hl]
  refine (Try.slices_Sort_string g 0 cap (low S) w (holds_of_block (by exact h) (by rw [low_enc]; exact List.take_of_length_le (by simp [low, sv]))) h.lt (by omega)).mono ?_
  rintro e w' ⟨rfl, m, os, rfl⟩
  rw [low_sort]
  exact ⟨rfl, sort_block h, grownBy_sorted _⟩

/-! ### The walk -/
theorem own_slice {B C : Nat} {w : World} {x : Value} {L : List (List ByteArray)} (h : Own B C w x L) : ∃ a, x = .slice a L.length L.length ∧ (0 < L.length → ∃ G vs, a = some ⟨G, 0, none⟩ ∧ ORows B C w G vs L) := by
  rcases h with ⟨rfl, rfl⟩ | ⟨G, vs, rfl, h⟩
  · exact ⟨none, rfl, fun h => absurd h (by simp)⟩
  · exact ⟨_, rfl, fun _ => ⟨G, vs, rfl, h⟩⟩
/-- The sort done: the shard's row is what the plain law says. -/
theorem given_rows {B C : Nat} {w w3 : World} {G g i k : Nat} {vs : List Value} {L : List (List ByteArray)} {R : List ByteArray} {d e : ByteArray} (h : ORows B C w G vs L) (hi : L[i]? = some R) (hv : vs[i]? = some (.slice (some ⟨g, 0, none⟩) R.length R.length)) (hd : R[k]? = some d)
    (hg : B ≤ g ∧ g < C ∧ g ≠ G) (hC : C ≤ w.heap.size) (hS : Blk w3 g 9 (sv (srt (R.set k e))) ∧ (w.setCell ⟨g, k, none⟩ (.string e)).grownBy w3 (some g)) :
    (∃ v0, w3.cell? ⟨G, i, none⟩ = some v0 ∧ w3.frozen? ⟨G, i, none⟩ = false) ∧ Hid (ORows B C (w3.setCell ⟨G, i, none⟩ (.slice (some ⟨g, 0, none⟩) R.length R.length)) G vs (L.set i (giv d e R)) ∧ Below B w (w3.setCell ⟨G, i, none⟩ (.slice (some ⟨g, 0, none⟩) R.length R.length)) ∧ Up C w (w3.setCell ⟨G, i, none⟩ (.slice (some ⟨g, 0, none⟩) R.length R.length))) := by
  obtain ⟨s1, s2⟩ := hS
  have hsz : (w.setCell ⟨g, k, none⟩ (.string e)).heap.size = w.heap.size := by simp
  have hblk : ∀ b, b < w.heap.size → b ≠ g → w3.heap[b]? = w.heap[b]? := fun b hb hne => by
    rw [s2.block b (by rw [hsz]; exact hb) (fun e1 => hne (by cases e1; rfl)), Below.heap_setCell _ _ _ _ (by exact hne)]
  have e1 : srt (R.set k e) = giv d e R := srt_congr (set_perm hd)
  rw [e1] at s1
  have hl : (giv d e R).length = R.length := by rw [← e1, (srt_perm _).length_eq]; simp
  have r1 := h.turn hi hv hl s1 (fun b hb hne => hblk b (Nat.lt_of_lt_of_le hb hC) hne)
  have hil : i < vs.length := (List.getElem?_eq_some_iff.1 hv).1
  have r2 : ORows B C (w3.setCell ⟨G, i, none⟩ (.slice (some ⟨g, 0, none⟩) R.length R.length)) G vs (L.set i (giv d e R)) := by
    have r3 := r1.blk.set i (.slice (some ⟨g, 0, none⟩) R.length R.length)
    rw [set_same hv] at r3
    refine ⟨r1.lo, r1.hi, r3, r1.len, fun j Q hj => ?_, r1.dis⟩
    obtain ⟨v, h1, h2⟩ := r1.row j Q hj
    refine ⟨v, h1, ?_⟩
    rcases h2 with h2 | ⟨g', h2, h3, h4, h5, h6⟩
    · exact .inl h2
    · exact .inr ⟨g', h2, h3, h4, h5, h6.other (by exact h5) _⟩
  have hs3 : w.heap.size ≤ w3.heap.size := by have := s2.size; rw [hsz] at this; exact this
  have b1 : Below B w w3 := by
    have b0 : Below B w (w.setCell ⟨g, k, none⟩ (.string e)) := (Below.refl _ _).setCell (by exact hg.1) _
    exact b0.grown s2 (by rw [hsz]; omega) (fun b hb => by cases hb; exact hg.1)
  refine ⟨⟨vs[i], by rw [r1.blk.cell]; exact List.getElem?_eq_getElem hil, r1.blk.free i⟩, r2, b1.setCell (by exact h.lo) _, by simpa using hs3, fun b hb1 hb2 => ?_⟩
  have hne : b ≠ G := by have := h.hi; omega
  rw [Below.heap_setCell _ _ _ _ (by exact hne)]
  exact hblk b hb2 (by omega)

set_option maxRecDepth 100000 in
set_option maxHeartbeats 4000000 in
theorem give_any (B C : Nat) (x : Value) (L : List (List ByteArray)) (d e' : ByteArray) (w : World) (h : Own B C w x L) (hC : C ≤ w.heap.size) (hl : L.length ≤ 65536) (hs : ∀ R ∈ L, R.length ≤ 65536) :
    Calls Try.prog 17 #[x, .string d, .string e'] w fun r w' => Gives B C w w' d e' x L r := by
  have HO : Hid (Own B C w x L) := h
  obtain ⟨a, rfl, h'⟩ := own_slice h
  have HR : Hid _ := h'
  have HS : Hid _ := hs
  clear h h' hs
  go_enter Try.func17, Try.ntmps17
  go_wp2
  go_loopw [12] (fun s12 wr => ∃ i : Nat, i ≤ L.length ∧ s12 = .int .i64 i ∧ wr = w ∧ Hid (∀ j Q, j < i → L[j]? = some Q → el d e' Q = false)) (fun s12 _ => L.length - (intOf s12).toNat)
  case atStart => exact ⟨0, Nat.zero_le _, rfl, by simp, fun j Q hj => absurd hj (by omega)⟩
  case round =>
    obtain ⟨i, hi, rfl, rfl, HN⟩ := hrel
    by_cases hlt : i < L.length
    · obtain ⟨R, hR⟩ := at_of_lt hlt
      obtain ⟨G, vs, rfl, hO⟩ := HR.out (by omega)
      obtain ⟨v, hv, c1, hrow⟩ := hO.at hR
      have hRl : R.length ≤ 65536 := HS.out R (List.mem_of_getElem? hR)
      have HSR : Hid (SR wr v R) := hrow.sr
      have HROW : Hid _ := hrow
      have HOO : Hid _ := hO
      have HRR : Hid (L[i]? = some R) := hR
      have HV : Hid (vs[i]? = some v) := hv
      obtain ⟨ra, rcap, rfl⟩ : ∃ ra rcap, v = .slice ra R.length rcap := by
        obtain ⟨ra, rcap, h1, _⟩ := HSR.out
        exact ⟨ra, rcap, h1⟩
      clear hrow hO hR hv
      by_cases q1 : cntS d R = 0
      · have HNN : Hid (∀ j Q, j < i + 1 → L[j]? = some Q → el d e' Q = false) := by
          intro j Q hj hQ
          by_cases e1 : j = i
          · subst e1
            rw [HRR.out] at hQ
            cases hQ
            exact el_no.2 (by omega)
          · exact HN.out j Q (by omega) hQ
        have hx : Lib.idxOfS R d = -1 := idx_no q1
        clear q1
        go_wp2_with (go_at_call 19; refine (index_any _ R _ wr HSR.out hRl).mono ?_; rintro e w' ⟨rfl, rfl⟩; rw [hx])
        go_roundw
        case rel => exact ⟨i + 1, by omega, by go_num, by simp, HNN.out⟩
        case measure => simp [intOf]; omega
      · by_cases q2 : 0 < cntS e' R
        · have HNN : Hid (∀ j Q, j < i + 1 → L[j]? = some Q → el d e' Q = false) := by
            intro j Q hj hQ
            by_cases e1 : j = i
            · subst e1
              rw [HRR.out] at hQ
              cases hQ
              exact el_no.2 (by omega)
            · exact HN.out j Q (by omega) hQ
          obtain ⟨m, hx, hm⟩ := idx_at (show 0 < cntS d R by omega)
          have hy : Lib.containsS R e' = true := has_yes q2
          have HC2 : Hid (Calls Try.prog 20 #[.slice ra R.length rcap, .string e'] wr fun e w' => e = .returned (.bool true) ∧ w' = wr) := by
            have := contains_any _ R e' wr HSR.out hRl
            rw [hy] at this
            exact this
          clear q1 q2 hm hy
          go_wp2_with (first | (go_at_call 19; refine (index_any _ R _ wr HSR.out hRl).mono ?_; rintro e w' ⟨rfl, rfl⟩; rw [hx]) | (go_at_call 20; refine Calls.mono HC2.out ?_; rintro e w' ⟨rfl, rfl⟩))
          go_roundw
          case rel => exact ⟨i + 1, by omega, by go_num, by simp, HNN.out⟩
          case measure => simp [intOf]; omega
        · have hel : el d e' R = true := el_iff.2 ⟨by omega, by omega⟩
          obtain ⟨m, hx, hm⟩ := idx_at (show 0 < cntS d R by omega)
          have hy : Lib.containsS R e' = false := has_no (by omega)
          have hml : m < R.length := (List.getElem?_eq_some_iff.1 hm).1
          obtain ⟨g, hg0, hg1⟩ : ∃ g, (Value.slice ra R.length rcap) = .slice (some ⟨g, 0, none⟩) R.length R.length ∧ B ≤ g ∧ g < C ∧ g ≠ G ∧ Blk wr g 9 (sv R) := by
            rcases HROW.out with ⟨_, h2⟩ | ⟨g, h2⟩
            · subst h2; simp at hml
            · exact ⟨g, h2⟩
          cases hg0
          have HB : Hid (Blk (wr.setCell ⟨g, m, none⟩ (.string e')) g 9 (sv (R.set m e'))) := by
            have := hg1.2.2.2.set m (.string e')
            unfold sv at this ⊢
            rw [List.map_set]
            exact this
          have d0 : wr.cell? ⟨g, m, none⟩ = some (.string d) := blk_get hg1.2.2.2 hm
          have f0 := hg1.2.2.2.free m
          have HGG : Hid (B ≤ g ∧ g < C ∧ g ≠ G) := ⟨hg1.1, hg1.2.1, hg1.2.2.1⟩
          have HM : Hid (R[m]? = some d) := hm
          have HEL : Hid _ := hel
          have HGR : Hid (∀ w3, (Blk w3 g 9 (sv (srt (R.set m e'))) ∧ (wr.setCell ⟨g, m, none⟩ (.string e')).grownBy w3 (some g)) → _) := fun w3 h3 => given_rows (d := d) HOO.out HRR.out HV.out HM.out HGG.out hC h3
          have HC2 : Hid (Calls Try.prog 20 #[.slice (some ⟨g, 0, none⟩) R.length R.length, .string e'] wr fun e w' => e = .returned (.bool false) ∧ w' = wr) := by
            have := contains_any _ R e' wr HSR.out hRl
            rw [hy] at this
            exact this
          clear q1 q2 hm hg1 hel hy
          go_wp2_with (first | (go_at_call 19; refine (index_any _ R _ wr HSR.out hRl).mono ?_; rintro e w' ⟨rfl, rfl⟩; rw [hx]) | (go_at_call 20; refine Calls.mono HC2.out ?_; rintro e w' ⟨rfl, rfl⟩) | (go_at_call 21; refine (sort_any HB.out (by simp) hRl).mono ?_; rintro e w3 ⟨rfl, HW3⟩; obtain ⟨⟨v3, d3, f3⟩, HE⟩ := HGR.out w3 HW3.out))
          go_ret
          refine ⟨true, rfl, _, .inr ⟨G, vs, by simp, HE.out.1⟩, HE.out.2.1, HE.out.2.2, .inl ⟨rfl, i, R, HRR.out, HEL.out, HN.out, rfl⟩⟩
    · have HF : Hid (∀ R ∈ L, el d e' R = false) := by
        intro R hR
        obtain ⟨j, hj, hj2⟩ := List.getElem_of_mem hR
        exact HN.out j R (by omega) (by rw [List.getElem?_eq_getElem hj, hj2])
      go_wp2
      go_ret
      exact ⟨false, rfl, L, HO.out, Below.refl _ _, Up.refl _ _, .inr ⟨rfl, rfl, HF.out⟩⟩

theorem zzgive_any (B C : Nat) (x : Value) (L : List (List ByteArray)) (d e' : ByteArray) (w : World) (h : Own B C w x L) (hC : C ≤ w.heap.size) (hl : L.length ≤ 65536) (hs : ∀ R ∈ L, R.length ≤ 65536) :
    Calls Try.prog 11 #[x, .string d, .string e'] w fun r w' => Gives B C w w' d e' x L r := by
  have HC : Hid _ := give_any B C x L d e' w h hC hl hs
  clear h hC hl hs
  go_enter Try.func11, Try.ntmps11
  go_wp2_with (go_at_call 17; refine Calls.mono HC.out ?_; rintro e w' ⟨r, rfl, HG⟩)
  go_ret
  exact ⟨r, rfl, HG⟩
end Go.Proofs.Qxb6617250a
