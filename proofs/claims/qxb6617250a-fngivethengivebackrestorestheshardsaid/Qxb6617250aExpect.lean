/-
  'zzNodeB1GiveExpected': one donor out, id in, in order.
-/
import Derived.Test.Qxb6617250aSorted
namespace Go.Proofs.Qxb6617250a
open Go.RowKit
set_option linter.unusedVariables false

/-- The list without its first d. -/
def er (d : ByteArray) : List ByteArray → List ByteArray
  | [] => []
  | s :: r => if s = d then r else s :: er d r
theorem er_length (d : ByteArray) (S : List ByteArray) : (er d S).length ≤ S.length := by
  induction S with
  | nil => exact Nat.le_refl _
  | cons s r ih => simp only [er]; split <;> simp <;> omega
/-- The state of the loop: is the donor out already? -/
def DropAt (d : ByteArray) (S O : List ByteArray) (k : Nat) (v : Value) : Prop := (v = .bool false ∧ O ++ er d (S.drop k) = er d S) ∨ (v = .bool true ∧ O ++ S.drop k = er d S)

theorem str_oneCell (s : ByteArray) : ∀ u ∈ [Value.string s], u.oneCell' = true := by
  intro u hu
  simp at hu
  subst hu
  rfl
theorem push_below9 {B : Nat} {w wr w2 : World} {v : Value} {n : Nat} {xs : List Value} {o : Obj} (hbel : Below B w wr) (hB : B ≤ wr.heap.size) (hown : wr.ownsRow B 9 1 v n xs) (hgr : (wr.alloc o).grownBy w2 v.ownBlock) : Below B w w2 ∧ B ≤ w2.heap.size := by
  have hs := hgr.size
  simp at hs
  exact ⟨(hbel.alloc hB o).grown hgr (by simp; omega) (fun k hk => (hown.lt k hk).1), by omega⟩
theorem sr_of_owns {B : Nat} {w : World} {v : Value} {n : Nat} {S : List ByteArray} (h : w.ownsRow B 9 1 v n (sv S)) (hn : n = S.length) : SR w v S := by
  subst hn
  rcases h.2 with ⟨h1, h2⟩ | ⟨g, cap, cur, hv, hg, hh, r⟩
  · exact ⟨none, 0, by rw [h1, h2], fun h0 => absurd h0 (by omega)⟩
  · refine ⟨_, cap, hv, fun _ => ⟨g, 0, rfl, (h.lt g (by rw [hv]; rfl)).2, fun j s hj => ?_⟩⟩
    have h3 := h.cells (g := g) (by rw [hv]; rfl) j (.string s) (by rw [List.getElem?_map, hj]; rfl)
    rwa [WideShapes.add_plain] at h3

set_option maxRecDepth 100000 in
set_option maxHeartbeats 4000000 in
theorem expect_any (v : Value) (S : List ByteArray) (d e' : ByteArray) (w : World) (h : SR w v S) (hl : S.length ≤ 65536) :
    Calls Try.prog 10 #[v, .string d, .string e'] w fun e w' => ∃ R u, e = .returned u ∧ Hid (R.Perm (er d S ++ [e']) ∧ SortedS R ∧ Row w.heap.size w' u R) ∧ Below w.heap.size w w' := by
  obtain ⟨a, cap, rfl, h⟩ := h
  have HH : Hid _ := h
  clear h
  obtain ⟨i0, hi, hz0, hz1, hz2⟩ := info_parts info9
  go_enter Try.func10, Try.ntmps10
  go_wp2_with (at_make; refine wpList_make_own _ rfl _ _ 26 rfl w.heap.size 9 i0 _ 1 Try.underlying26 hi hz0 hz1 .i64 .i64 _ (S.length + 1) rfl rfl (by omega) (by rw [hz2]; omega) (by unfold maxLen; omega) (Nat.le_refl _) ?_; intro w1 hown hgr)
  have hB1 : Below w.heap.size w w1 := (Below.refl _ _).grown hgr (Nat.le_refl _) (fun k hk => by cases hk)
  clear hgr
  go_loopw [7, 8, 9] (fun st sd si wr => ∃ (k : Nat) (O : List ByteArray), k ≤ S.length ∧ si = .int .i64 k ∧ O.length ≤ k ∧ Hid (DropAt d S O k sd) ∧ wr.ownsRow w.heap.size 9 1 st O.length (sv O) ∧ Below w.heap.size w wr) (fun _ _ si _ => S.length - (intOf si).toNat)
  case atStart => exact ⟨0, [], Nat.zero_le _, rfl, Nat.le_refl _, .inl ⟨rfl, rfl⟩, hown, hB1⟩
  case round =>
    clear hown
    obtain ⟨k, O, hk, rfl, hOl, HD, hown, hbel⟩ := hrel
    have hzz := hbel.size
    by_cases hlt : k < S.length
    · obtain ⟨b, off, rfl, hb1, hb2⟩ := HH.out (by omega)
      obtain ⟨s, hs1, hs2⟩ := drop_atS hlt
      have c1 : wr.cell? ⟨b, off + k, none⟩ = some (.string s) := (hbel.cell (by exact hb1)).trans (hb2 k s hs1)
      clear hs1 hb2
      have HS2 : Hid (S.drop k = s :: S.drop (k + 1)) := hs2
      clear hs2
      rcases HD.out with ⟨rfl, hd⟩ | ⟨rfl, hd⟩
      · by_cases he : s = d
        · have HN : Hid (O ++ S.drop (k + 1) = er d S) := by show _ = _; rw [← hd, HS2.out, er, if_pos he]
          have hq := same_yes he
          clear hd he
          go_wp2
          go_roundw
          case rel => exact ⟨k + 1, O, by omega, by go_num, by omega, .inr ⟨rfl, HN.out⟩, hown, hbel⟩
          case measure => simp [intOf]; omega
        · have HN : Hid ((O ++ [s]) ++ er d (S.drop (k + 1)) = er d S) := by show _ = _; rw [← hd, HS2.out, er, if_neg he, List.append_assoc]; rfl
          have hq := same_no he
          clear hd he
          go_wp2_with (at_builtin; refine wpList_append_own _ rfl (.tmp 30) (.tmp 35) 26 rfl w.heap.size 9 i0 _ 1 16 Try.underlying26 hi hz0 hz1 hz2 rfl (by decide) _ O.length (sv O) rfl (hown.alloc _) ⟨wr.heap.size, 0, none⟩ 1 1 [.string s] rfl rfl (cell_one_new _ _ _) (str_oneCell _) (by unfold maxLen; omega) (by omega) (by simp; omega) ?_; intro v3 w3 hown3 hgr3 hnil3; have hp3 := push_below9 hbel hzz hown hgr3; clear hgr3 hnil3)
          go_roundw
          case rel => exact ⟨k + 1, O ++ [s], by omega, by go_num, by simp; omega, .inl ⟨rfl, HN.out⟩, by simpa using hown3, hp3.1⟩
          case measure => simp [intOf]; omega
      · have HN : Hid ((O ++ [s]) ++ S.drop (k + 1) = er d S) := by show _ = _; rw [← hd, HS2.out, List.append_assoc]; rfl
        clear hd
        go_wp2_with (at_builtin; refine wpList_append_own _ rfl (.tmp 30) (.tmp 35) 26 rfl w.heap.size 9 i0 _ 1 16 Try.underlying26 hi hz0 hz1 hz2 rfl (by decide) _ O.length (sv O) rfl (hown.alloc _) ⟨wr.heap.size, 0, none⟩ 1 1 [.string s] rfl rfl (cell_one_new _ _ _) (str_oneCell _) (by unfold maxLen; omega) (by omega) (by simp; omega) ?_; intro v3 w3 hown3 hgr3 hnil3; have hp3 := push_below9 hbel hzz hown hgr3; clear hgr3 hnil3)
        go_roundw
        case rel => exact ⟨k + 1, O ++ [s], by omega, by go_num, by simp; omega, .inr ⟨rfl, HN.out⟩, by simpa using hown3, hp3.1⟩
        case measure => simp [intOf]; omega
    · have HF : Hid (O = er d S) := by
        show _ = _
        rcases HD.out with ⟨_, hd⟩ | ⟨_, hd⟩
        · rw [List.drop_of_length_le (by omega)] at hd; simpa [er] using hd
        · rw [List.drop_of_length_le (by omega)] at hd; simpa using hd
      go_wp2_with (first | (at_builtin; refine wpList_append_own _ rfl (.tmp 37) (.tmp 39) 26 rfl w.heap.size 9 i0 _ 1 16 Try.underlying26 hi hz0 hz1 hz2 rfl (by decide) _ O.length (sv O) rfl (hown.alloc _) ⟨wr.heap.size, 0, none⟩ 1 1 [.string e'] rfl rfl (cell_one_new _ _ _) (str_oneCell _) (by unfold maxLen; omega) (by omega) (by simp; omega) ?_; intro v3 w3 hown3 hgr3 hnil3; obtain ⟨hp3, hz3⟩ := push_below9 hbel hzz hown hgr3; have HSR : Hid (SR w3 v3 (O ++ [e'])) := sr_of_owns (S := O ++ [e']) (by simpa using hown3) (by simp); clear hgr3 hnil3) | (go_at_call 14; refine (sorted_any v3 (O ++ [e']) _ HSR.out (by simp; omega)).mono ?_; rintro e w4 ⟨R, u, rfl, HR, hb4⟩))
      go_ret
      refine ⟨R, u, rfl, ⟨by rw [← HF.out]; exact HR.out.1, HR.out.2.1, ?_⟩, hp3.trans (hb4.mono hz3)⟩
      obtain ⟨g, h1, h2, h3⟩ := HR.out.2.2
      exact ⟨g, h1, Nat.le_trans hz3 h2, h3⟩
end Go.Proofs.Qxb6617250a
