/-
  'zzNodeB1ShardsFit': where it says true every shard has at most 65,536 names.
-/
import Derived.Test.Qxb6617250aNest
import Derived.Deep.DeepCutAuto
import Derived.Deep.CutBlock
namespace Go.Proofs.Qxb6617250a
open Go.RowKit
set_option linter.unusedVariables false

def Short (L : List (List ByteArray)) (r : Bool) : Prop := r = true → ∀ R ∈ L, R.length ≤ 65536
theorem short_no (L : List (List ByteArray)) : Short L false := fun h => by cases h

set_option maxRecDepth 100000 in
set_option maxHeartbeats 2000000 in
theorem fit_any (x : Value) (L : List (List ByteArray)) (d e' : ByteArray) (w : World) (h : SSR w x L) :
    Calls Try.prog 7 #[x, .string d, .string e'] w fun e w' => RetB e (Short L) ∧ w = w' := by
  obtain ⟨a, cap, rfl, h⟩ := h
  have HH : Hid _ := h
  clear h
  by_cases h1 : L.length ≤ 65536
  · by_cases h2 : d.size ≤ 1048576
    · by_cases h3 : e'.size ≤ 1048576
      · by_cases h4 : d.size + e'.size ≤ 1048576
        · go_enter Try.func7, Try.ntmps7
          go_wp2
          go_loop [7, 8] (fun st si => ∃ i t : Nat, i ≤ L.length ∧ t ≤ 1048576 ∧ si = .int .i64 i ∧ st = .int .i64 t ∧ Hid (∀ R ∈ L.take i, R.length ≤ 65536)) (fun _ si => L.length - (intOf si).toNat)
          case atStart => exact ⟨0, d.size + e'.size, by omega, by omega, rfl, by go_num, by intro R hR; simp at hR⟩
          case round =>
            obtain ⟨i, t, hi, ht, rfl, rfl, HI⟩ := hrel
            by_cases hlt : i < L.length
            · obtain ⟨b, off, rfl, hb1, hb2⟩ := HH.out (by omega)
              obtain ⟨R, hR1, hR2⟩ := drop_atL hlt
              obtain ⟨rv, c1, ra, rcap, rfl, hr⟩ := hb2 i R hR1
              have HR : Hid (0 < R.length → ∃ b off, ra = some ⟨b, off, none⟩ ∧ b < w.heap.size ∧ ∀ j s, R[j]? = some s → w.cell? ⟨b, off + j, none⟩ = some (.string s)) := hr
              clear HH
              have HR1 : Hid (L.take (i + 1) = L.take i ++ [R]) := by show _ = _; rw [List.take_add_one, hR1]; rfl
              clear hr hb2 hR1 hR2
              clear h1 h2 h3 h4
              obtain ⟨T, hT⟩ : ∃ T : Int, T = (t : Int) + 24 := ⟨_, rfl⟩
              have hT0 : 0 ≤ T := by omega
              have hT1 : T ≤ 1048600 := by omega
              go_upto_region 12 with fail
              rw [← hT]
              clear hT
              by_cases q1 : T ≤ 1048576
              · go_wp2
                go_loop [7, 10] (fun st sk => ∃ (k : Nat) (t' : Int), k ≤ R.length ∧ 0 ≤ t' ∧ t' ≤ 1048576 ∧ Hid (16 * (k : Int) ≤ t') ∧ sk = .int .i64 k ∧ st = .int .i64 t') (fun _ sk => R.length - (intOf sk).toNat)
                case atStart => exact ⟨0, T, by omega, by omega, by omega, by show _ ≤ _; omega, rfl, rfl⟩
                case round =>
                  obtain ⟨k, t', hk, ht0, ht', HK, rfl, rfl⟩ := hrel
                  have hk6 : k ≤ 65536 := by have := HK.out; omega
                  by_cases hkl : k < R.length
                  · obtain ⟨b', off', rfl, hb1', hb2'⟩ := HR.out (by omega)
                    obtain ⟨s, hs1, hs2⟩ := drop_atS hkl
                    have c2 := hb2' k s hs1
                    clear hs1 hs2 hb2'
                    by_cases q2 : s.size ≤ 1048576
                    · obtain ⟨T2, hT2⟩ : ∃ T2 : Int, T2 = t' + (16 + (s.size : Int)) := ⟨_, rfl⟩
                      have hT20 : 0 ≤ T2 := by omega
                      have hT21 : T2 ≤ 3000000 := by omega
                      have HK2 : Hid (16 * ((k : Int) + 1) ≤ T2) := by have := HK.out; show _ ≤ _; omega
                      go_upto_region 21 with fail
                      rw [← hT2]
                      clear hT2
                      by_cases q3 : T2 ≤ 1048576
                      · go_wp2
                        go_round
                        case rel => exact ⟨k + 1, T2, by omega, by omega, by omega, by have := HK2.out; show _ ≤ _; omega, by go_num, rfl⟩
                        case measure => simp [intOf]; omega
                      · go_wp2
                        go_ret
                        exact ⟨RetB.intro (r := false) (short_no L), rfl⟩
                    · go_wp2
                      go_ret
                      exact ⟨RetB.intro (r := false) (short_no L), rfl⟩
                  · have HRL : Hid (R.length ≤ 65536) := by have := HK.out; show _ ≤ _; omega
                    obtain ⟨t2, rfl⟩ : ∃ t2 : Nat, t' = (t2 : Int) := ⟨t'.toNat, by omega⟩
                    go_wp2
                    go_round
                    case rel =>
                      refine ⟨i + 1, t2, by omega, by omega, by go_num, rfl, ?_⟩
                      rw [HR1.out]
                      intro Q hQ
                      rcases List.mem_append.1 hQ with hQ | hQ
                      · exact HI.out Q hQ
                      · simp at hQ; subst hQ; exact HRL.out
                    case measure => simp [intOf]; omega
              · go_wp2
                go_ret
                exact ⟨RetB.intro (r := false) (short_no L), rfl⟩
            · have HF : Hid (∀ R ∈ L, R.length ≤ 65536) := by
                have := HI.out
                rw [List.take_of_length_le (by omega)] at this
                exact this
              go_wp2
              go_ret
              exact ⟨RetB.intro (r := true) (fun _ => HF.out), rfl⟩
        · go_enter Try.func7, Try.ntmps7
          go_wp2
          go_ret
          exact ⟨RetB.intro (r := false) (short_no L), rfl⟩
      · go_enter Try.func7, Try.ntmps7
        go_wp2
        go_ret
        exact ⟨RetB.intro (r := false) (short_no L), rfl⟩
    · have dd : decide ((1048576 : Int) < (d.size : Int)) = true := decide_eq_true (by omega)
      go_enter Try.func7, Try.ntmps7
      go_wp2
      go_ret
      exact ⟨RetB.intro (r := false) (short_no L), rfl⟩
  · go_enter Try.func7, Try.ntmps7
    go_wp2
    go_ret
    exact ⟨RetB.intro (r := false) (short_no L), rfl⟩
end Go.Proofs.Qxb6617250a
