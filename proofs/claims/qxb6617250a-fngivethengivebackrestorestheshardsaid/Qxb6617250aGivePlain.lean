/-
  GIVE, PLAINLY: which shards are eligible, what a call makes of them.
-/
import Derived.Test.Qxb6617250aExpect
namespace Go.Proofs.Qxb6617250a
set_option linter.unusedVariables false

def srt (l : List ByteArray) : List ByteArray := l.mergeSort leS
theorem srt_perm (l : List ByteArray) : (srt l).Perm l := List.mergeSort_perm l leS
theorem srt_sorted (l : List ByteArray) : SortedS (srt l) := List.pairwise_mergeSort leS_trans leS_total l
theorem srt_eq {R l : List ByteArray} (hp : R.Perm l) (hs : SortedS R) : R = srt l := sorted_unique (hp.trans (srt_perm l).symm) hs (srt_sorted l)
theorem srt_congr {l m : List ByteArray} (h : l.Perm m) : srt l = srt m := srt_eq ((srt_perm l).trans h) (srt_sorted l)

theorem beqS (a b : ByteArray) : (a == b) = decide (a = b) := by
  rcases a with ⟨a⟩
  rcases b with ⟨b⟩
  show (a == b) = decide ((⟨a⟩ : ByteArray) = ⟨b⟩)
  by_cases h : a = b
  · subst h; simp
  · rw [beq_eq_false_iff_ne.2 h]
    symm
    exact decide_eq_false (fun e => h (by cases e; rfl))
theorem lawS : LawfulBEq ByteArray := { eq_of_beq := fun {a b} h => by rw [beqS] at h; exact of_decide_eq_true h, rfl := fun {a} => by rw [beqS]; exact decide_eq_true rfl }
theorem cnt_count (d : ByteArray) (S : List ByteArray) : cntS d S = S.count d := by
  induction S with
  | nil => rfl
  | cons s r ih =>
    rw [cntS, ih, List.count_cons]
    by_cases h : s = d
    · simp [h, beqS, Nat.add_comm]
    · simp [h, beqS]
theorem er_erase (d : ByteArray) (S : List ByteArray) : er d S = S.erase d := by
  induction S with
  | nil => rfl
  | cons s r ih =>
    rw [er, List.erase_cons, ih]
    by_cases h : s = d <;> simp [h, beqS]
theorem cnt_pos {d : ByteArray} {S : List ByteArray} : 0 < cntS d S ↔ d ∈ S := by rw [cnt_count]; exact @List.count_pos_iff _ _ lawS _ _
theorem cnt_zero {d : ByteArray} {S : List ByteArray} : cntS d S = 0 ↔ d ∉ S := by rw [cnt_count]; exact @List.count_eq_zero _ _ lawS _ _
theorem cnt_perm {d : ByteArray} {S T : List ByteArray} (h : S.Perm T) : cntS d S = cntS d T := by rw [cnt_count, cnt_count]; exact h.count_eq d
theorem er_perm {d : ByteArray} {S : List ByteArray} (h : d ∈ S) : S.Perm (d :: er d S) := by rw [er_erase]; exact @List.perm_cons_erase _ _ lawS _ _ h

/-- A shard that keeps d and does not keep e. -/
def el (d e : ByteArray) (R : List ByteArray) : Bool := decide (0 < cntS d R) && decide (cntS e R = 0)
theorem el_iff {d e : ByteArray} {R : List ByteArray} : el d e R = true ↔ 0 < cntS d R ∧ cntS e R = 0 := by simp [el]
theorem el_no {d e : ByteArray} {R : List ByteArray} : el d e R = false ↔ ¬ (0 < cntS d R ∧ cntS e R = 0) := by rw [← el_iff]; simp
/-- The shard once d has given e its place. -/
def giv (d e : ByteArray) (R : List ByteArray) : List ByteArray := srt (er d R ++ [e])
def wn (d e : ByteArray) (R : List ByteArray) : List ByteArray := if el d e R = true then giv d e R else R
theorem giv_cnt (d e x : ByteArray) (R : List ByteArray) : cntS x (giv d e R) = cntS x (er d R) + (if e = x then 1 else 0) := by
  unfold giv
  rw [cnt_perm (srt_perm _), cnt_count, cnt_count, List.count_append]
  by_cases h : e = x <;> simp [h, List.count_cons, beqS]
theorem giv_out (d e : ByteArray) (R : List ByteArray) : el d e (giv d e R) = false := by
  rw [el_no, giv_cnt, giv_cnt, if_pos rfl]
  omega
theorem giv_length {d e : ByteArray} {R : List ByteArray} (h : 0 < cntS d R) : (giv d e R).length = R.length := by
  unfold giv
  rw [(srt_perm _).length_eq, List.length_append, (er_perm (cnt_pos.1 h)).length_eq]
  simp
theorem wn_giv {d e : ByteArray} {R : List ByteArray} : wn d e (giv d e R) = giv d e R := by unfold wn; rw [giv_out]; simp
theorem wn_el {d e : ByteArray} {R : List ByteArray} (h : el d e R = true) : wn d e R = giv d e R := by unfold wn; rw [if_pos h]
theorem wn_no {d e : ByteArray} {R : List ByteArray} (h : el d e R = false) : wn d e R = R := by unfold wn; rw [h]; simp
theorem wn_length {d e : ByteArray} {R : List ByteArray} : (wn d e R).length = R.length := by
  by_cases h : el d e R = true
  · rw [wn_el h]; exact giv_length (el_iff.1 h).1
  · rw [wn_no (by simpa using h)]
theorem set_eraseIdx {R : List ByteArray} {k : Nat} (hk : k < R.length) (e : ByteArray) : (R.set k e).Perm (e :: R.eraseIdx k) := by
  rw [List.eraseIdx_eq_take_drop_succ, List.set_eq_take_append_cons_drop, if_pos hk]
  exact List.perm_middle
theorem set_perm {R : List ByteArray} {k : Nat} {d e : ByteArray} (h : R[k]? = some d) : (R.set k e).Perm (er d R ++ [e]) := by
  obtain ⟨hk, hd⟩ := List.getElem?_eq_some_iff.1 h
  have h1 : (R.set k e).Perm (e :: R.eraseIdx k) := set_eraseIdx hk e
  have h2 : (R[k] :: R.eraseIdx k).Perm R := by
    have := set_eraseIdx hk R[k]
    rw [List.set_getElem_self] at this
    exact this.symm
  have h3 : d ∈ R := by rw [← hd]; exact List.getElem_mem hk
  rw [hd] at h2
  have h4 : (R.eraseIdx k).Perm (er d R) := (h2.trans (er_perm h3)).cons_inv
  exact (h1.trans (h4.cons e)).trans (List.perm_append_singleton e (er d R)).symm

/-- What one call of 'give' does to the shards. -/
def Gave (d e : ByteArray) (L L' : List (List ByteArray)) : Prop := ∃ i R, L[i]? = some R ∧ el d e R = true ∧ (∀ j Q, j < i → L[j]? = some Q → el d e Q = false) ∧ L' = L.set i (giv d e R)
def nEl (d e : ByteArray) (L : List (List ByteArray)) : Nat := L.countP (el d e)
theorem nEl_le (d e : ByteArray) (L : List (List ByteArray)) : nEl d e L ≤ L.length := List.countP_le_length
theorem gave_count {d e : ByteArray} {L L' : List (List ByteArray)} (h : Gave d e L L') : nEl d e L' + 1 = nEl d e L := by
  obtain ⟨i, R, h1, h2, _, rfl⟩ := h
  obtain ⟨hi, hR⟩ := List.getElem?_eq_some_iff.1 h1
  unfold nEl
  rw [List.countP_set hi, giv_out, hR, if_pos h2]
  have : 0 < L.countP (el d e) := List.countP_pos_iff.2 ⟨R, by rw [← hR]; exact List.getElem_mem hi, h2⟩
  simp
  omega
theorem gave_length {d e : ByteArray} {L L' : List (List ByteArray)} (h : Gave d e L L') : L'.length = L.length := by
  obtain ⟨i, R, h1, h2, _, rfl⟩ := h
  simp
theorem set_same {α : Type} {L : List α} {i : Nat} {x : α} (h : L[i]? = some x) : L.set i x = L := by
  obtain ⟨hi, hx⟩ := List.getElem?_eq_some_iff.1 h
  rw [← hx]
  exact List.set_getElem_self hi
theorem gave_map {d e : ByteArray} {L L' : List (List ByteArray)} (h : Gave d e L L') : L'.map (wn d e) = L.map (wn d e) := by
  obtain ⟨i, R, h1, h2, _, rfl⟩ := h
  rw [List.map_set, wn_giv, ← wn_el h2]
  exact set_same (by rw [List.getElem?_map, h1]; rfl)
theorem gave_short {d e : ByteArray} {L L' : List (List ByteArray)} {n : Nat} (h : Gave d e L L') (hs : ∀ R ∈ L, R.length ≤ n) : ∀ R ∈ L', R.length ≤ n := by
  obtain ⟨i, R, h1, h2, _, rfl⟩ := h
  intro Q hQ
  rcases List.mem_or_eq_of_mem_set hQ with hQ | hQ
  · exact hs Q hQ
  · rw [hQ, giv_length (el_iff.1 h2).1]
    exact hs R (List.mem_of_getElem? h1)
theorem none_map {d e : ByteArray} {L : List (List ByteArray)} (h : ∀ R ∈ L, el d e R = false) : L.map (wn d e) = L := by
  have h1 : L.map (wn d e) = L.map id := List.map_congr_left (fun R hR => wn_no (h R hR))
  rw [h1]
  simp
theorem none_count {d e : ByteArray} {L : List (List ByteArray)} (h : ∀ R ∈ L, el d e R = false) : nEl d e L = 0 := by
  unfold nEl
  rw [List.countP_eq_zero]
  intro R hR
  rw [h R hR]
  simp
theorem nEl_next {d e : ByteArray} {L : List (List ByteArray)} {k : Nat} {R : List ByteArray} (h : L[k]? = some R) : nEl d e (L.take (k + 1)) = nEl d e (L.take k) + (if el d e R = true then 1 else 0) := by
  unfold nEl
  rw [List.take_add_one, h, List.countP_append]
  simp [List.countP_cons]

/-! ### There and back -/
theorem back_first {d e : ByteArray} {L L' : List (List ByteArray)} {i : Nat} {R : List ByteArray} (hz : ∀ Q ∈ L, cntS e Q = 0) (hi : L[i]? = some R) (hR : 0 < cntS d R) (hm : ∀ j Q, j < i → L[j]? = some Q → cntS d Q = 0) (h : Gave d e L L') : L' = L.set i (giv d e R) := by
  obtain ⟨i', R', h1, h2, h3, rfl⟩ := h
  have h4 := el_iff.1 h2
  have e1 : ¬ i < i' := fun hlt => by
    have := h3 i R hlt hi
    rw [el_no] at this
    exact this ⟨hR, hz R (List.mem_of_getElem? hi)⟩
  have e2 : ¬ i' < i := fun hlt => by
    have := hm i' R' hlt h1
    omega
  obtain rfl : i = i' := by omega
  rw [hi] at h1
  cases h1
  rfl
theorem er_cnt_self {d : ByteArray} {R : List ByteArray} (h : 0 < cntS d R) : cntS d (er d R) + 1 = cntS d R := by
  have := cnt_perm (d := d) (er_perm (cnt_pos.1 h))
  rw [this]
  simp only [cntS, if_true]
  omega
theorem er_cnt_other {d e : ByteArray} {R : List ByteArray} (h : 0 < cntS d R) (hne : ¬ d = e) : cntS e (er d R) = cntS e R := by
  have := cnt_perm (d := e) (er_perm (cnt_pos.1 h))
  rw [this]
  simp only [cntS, if_neg hne]
  omega
theorem er_same {e : ByteArray} {R : List ByteArray} (h : cntS e R = 0) : er e R = R := by
  rw [er_erase]
  exact @List.erase_of_not_mem _ _ lawS _ _ (cnt_zero.1 h)
theorem er_of_perm {e : ByteArray} {R T : List ByteArray} (h : R.Perm T) : (er e R).Perm (er e T) := by
  rw [er_erase, er_erase]
  exact @List.Perm.erase _ _ lawS e _ _ h
theorem er_last {e : ByteArray} {R : List ByteArray} (h : cntS e R = 0) : (er e (R ++ [e])).Perm R := by
  have h1 : (R ++ [e]).Perm (e :: R) := List.perm_append_singleton e R
  refine (er_of_perm h1).trans ?_
  simp only [er, if_true]
  exact List.Perm.refl _
theorem back_same {d e : ByteArray} {R : List ByteArray} (hne : ¬ d = e) (hd : 0 < cntS d R) (he : cntS e R = 0) : giv e d (giv d e R) = srt R := by
  refine srt_congr ?_
  have h1 : (er e (giv d e R)).Perm (er d R) := (er_of_perm (srt_perm _)).trans (er_last (by rw [er_cnt_other hd hne]; exact he))
  exact ((h1.append_right [d]).trans (List.perm_append_singleton d (er d R))).trans (er_perm (cnt_pos.1 hd)).symm
theorem back_el {d e : ByteArray} {R : List ByteArray} (hne : ¬ d = e) (hd : 0 < cntS d R) : el e d (giv d e R) = decide (cntS d R = 1) := by
  have h1 := er_cnt_self hd
  have h2 : cntS d (giv d e R) = cntS d (er d R) := by rw [giv_cnt, if_neg (fun h => hne h.symm)]; rfl
  have h3 : 0 < cntS e (giv d e R) := by rw [giv_cnt, if_pos rfl]; omega
  by_cases hc : cntS d R = 1
  · rw [decide_eq_true hc, el_iff, h2]
    exact ⟨h3, by omega⟩
  · rw [decide_eq_false hc, el_no, h2]
    omega
theorem back_others {d e : ByteArray} {L : List (List ByteArray)} {i : Nat} {R' : List ByteArray} (hz : ∀ Q ∈ L, cntS e Q = 0) {j : Nat} {Q : List ByteArray} (hj : (L.set i R')[j]? = some Q) (hne : i ≠ j) : el e d Q = false := by
  rw [List.getElem?_set_ne hne] at hj
  rw [el_no, hz Q (List.mem_of_getElem? hj)]
  omega
theorem none_of {d e : ByteArray} {L : List (List ByteArray)} (h : ∀ Q ∈ L, cntS d Q = 0) : ∀ Q ∈ L, el d e Q = false := by
  intro Q hQ
  rw [el_no, h Q hQ]
  omega
theorem not_gave {d e : ByteArray} {L L' : List (List ByteArray)} (h : ∀ Q ∈ L, el d e Q = false) : ¬ Gave d e L L' := by
  rintro ⟨i, R, h1, h2, _⟩
  rw [h R (List.mem_of_getElem? h1)] at h2
  cases h2
/-- Back, where the shard held d once. -/
theorem back_yes {d e : ByteArray} {L L' : List (List ByteArray)} {i : Nat} {R : List ByteArray} (hne : ¬ d = e) (hz : ∀ Q ∈ L, cntS e Q = 0) (hi : L[i]? = some R) (hR : 0 < cntS d R) (h : Gave e d (L.set i (giv d e R)) L') : L' = L.set i (srt R) := by
  obtain ⟨i', R', h1, h2, h3, rfl⟩ := h
  by_cases e1 : i = i'
  · subst e1
    obtain ⟨hlt, _⟩ := List.getElem?_eq_some_iff.1 hi
    rw [List.getElem?_set_self hlt] at h1
    cases h1
    rw [List.set_set, back_same hne hR (hz R (List.mem_of_getElem? hi))]
  · rw [back_others hz h1 e1] at h2
    cases h2
end Go.Proofs.Qxb6617250a
