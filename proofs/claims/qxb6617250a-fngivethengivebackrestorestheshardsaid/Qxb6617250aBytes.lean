/-
  The two guards on sizes laid by program: each says some bool; nothing else comes of it.
-/
import Derived.Test.Qxb6617250aNest
import Derived.Deep.DeepCutAuto
import Derived.Deep.CutBlock
namespace Go.Proofs.Qxb6617250a
open Go.RowKit
set_option linter.unusedVariables false

set_option maxRecDepth 100000 in
set_option maxHeartbeats 2000000 in
theorem bytes6_any (x : Value) (L : List (List ByteArray)) (d e' : ByteArray) (w : World) (h : SSR w x L) :
    Calls Try.prog 6 #[x, .string d, .string e'] w fun e w' => RetB e (fun _ => True) ∧ w = w' := by
  obtain ⟨a, cap, rfl, h⟩ := h
  have HH : Hid _ := h
  clear h
  by_cases h1 : L.length ≤ 1048576
  · go_enter Try.func6, Try.ntmps6
    go_wp2
    go_loop [7, 8] (fun st si => ∃ (i : Nat) (t : Int), i ≤ L.length ∧ 0 ≤ t ∧ t ≤ 1048576 ∧ si = .int .i64 i ∧ st = .int .i64 t) (fun _ si => L.length - (intOf si).toNat)
    case atStart => exact ⟨0, L.length, by omega, by omega, by omega, rfl, by go_num⟩
    case round =>
      obtain ⟨i, t, hi, ht0, ht, rfl, rfl⟩ := hrel
      by_cases hlt : i < L.length
      · obtain ⟨b, off, rfl, hb1, hb2⟩ := HH.out (by omega)
        obtain ⟨R, hR1, hR2⟩ := drop_atL hlt
        obtain ⟨rv, c1, ra, rcap, rfl, hr⟩ := hb2 i R hR1
        have HR : Hid (0 < R.length → ∃ b off, ra = some ⟨b, off, none⟩ ∧ b < w.heap.size ∧ ∀ j s, R[j]? = some s → w.cell? ⟨b, off + j, none⟩ = some (.string s)) := hr
        clear HH
        clear hr hb2 hR1 hR2
        by_cases q0 : R.length ≤ 1048576
        · obtain ⟨T, hT⟩ : ∃ T : Int, T = t + (R.length : Int) := ⟨_, rfl⟩
          have hT0 : 0 ≤ T := by omega
          have hT1 : T ≤ 3000000 := by omega
          go_upto_region 13 with fail
          rw [← hT]
          clear hT
          by_cases q1 : T ≤ 1048576
          · go_wp2
            go_loop [7, 9] (fun st sk => ∃ (k : Nat) (t' : Int), k ≤ R.length ∧ 0 ≤ t' ∧ t' ≤ 1048576 ∧ sk = .int .i64 k ∧ st = .int .i64 t') (fun _ sk => R.length - (intOf sk).toNat)
            case atStart => exact ⟨0, T, by omega, by omega, by omega, rfl, rfl⟩
            case round =>
              obtain ⟨k, t', hk, ht0', ht', rfl, rfl⟩ := hrel
              by_cases hkl : k < R.length
              · obtain ⟨b', off', rfl, hb1', hb2'⟩ := HR.out (by omega)
                obtain ⟨s, hs1, hs2⟩ := drop_atS hkl
                have c2 := hb2' k s hs1
                clear hs1 hs2 hb2'
                by_cases q2 : s.size ≤ 1048576
                · obtain ⟨T2, hT2⟩ : ∃ T2 : Int, T2 = t' + (s.size : Int) := ⟨_, rfl⟩
                  have hT20 : 0 ≤ T2 := by omega
                  have hT21 : T2 ≤ 3000000 := by omega
                  go_upto_region 21 with fail
                  rw [← hT2]
                  clear hT2
                  by_cases q3 : T2 ≤ 1048576
                  · go_wp2
                    go_round
                    case rel => exact ⟨k + 1, T2, by omega, by omega, by omega, by go_num, rfl⟩
                    case measure => simp [intOf]; omega
                  · go_wp2
                    go_ret
                    exact ⟨RetB.intro (r := false) trivial, rfl⟩
                · go_wp2
                  go_ret
                  exact ⟨RetB.intro (r := false) trivial, rfl⟩
              · go_wp2
                go_round
                case rel => exact ⟨i + 1, t', by omega, by omega, by omega, by go_num, rfl⟩
                case measure => simp [intOf]; omega
          · go_wp2
            go_ret
            exact ⟨RetB.intro (r := false) trivial, rfl⟩
        · go_wp2
          go_ret
          exact ⟨RetB.intro (r := false) trivial, rfl⟩
      · clear HH
        by_cases q1 : d.size ≤ 1048576
        · obtain ⟨T, hT⟩ : ∃ T : Int, T = t + (d.size : Int) := ⟨_, rfl⟩
          have hT0 : 0 ≤ T := by omega
          have hT1 : T ≤ 3000000 := by omega
          go_upto_region 26 with fail
          rw [← hT]
          clear hT
          by_cases q2 : T ≤ 1048576
          · by_cases q3 : e'.size ≤ 1048576
            · obtain ⟨T2, hT2⟩ : ∃ T2 : Int, T2 = T + (e'.size : Int) := ⟨_, rfl⟩
              have hT20 : 0 ≤ T2 := by omega
              have hT21 : T2 ≤ 3000000 := by omega
              go_upto_region 31 with fail
              rw [← hT2]
              clear hT2
              by_cases q4 : T2 ≤ 1048576
              · go_wp2
                go_ret
                exact ⟨RetB.intro (r := true) trivial, rfl⟩
              · go_wp2
                go_ret
                exact ⟨RetB.intro (r := false) trivial, rfl⟩
            · go_wp2
              go_ret
              exact ⟨RetB.intro (r := false) trivial, rfl⟩
          · go_wp2
            go_ret
            exact ⟨RetB.intro (r := false) trivial, rfl⟩
        · go_wp2
          go_ret
          exact ⟨RetB.intro (r := false) trivial, rfl⟩
  · go_enter Try.func6, Try.ntmps6
    go_wp2
    go_ret
    exact ⟨RetB.intro (r := false) trivial, rfl⟩

set_option maxRecDepth 100000 in
set_option maxHeartbeats 2000000 in
theorem bytes13_any (x : Value) (L : List (List ByteArray)) (d e' : ByteArray) (w : World) (h : SSR w x L) :
    Calls Try.prog 13 #[x, .string d, .string e'] w fun e w' => RetB e (fun _ => True) ∧ w = w' := by
  obtain ⟨a, cap, rfl, h⟩ := h
  have HH : Hid _ := h
  clear h
  by_cases h1 : L.length ≤ 1048576
  · go_enter Try.func13, Try.ntmps13
    go_wp2
    go_loop [7, 8] (fun st si => ∃ (i : Nat) (t : Int), i ≤ L.length ∧ 0 ≤ t ∧ t ≤ 1048576 ∧ si = .int .i64 i ∧ st = .int .i64 t) (fun _ si => L.length - (intOf si).toNat)
    case atStart => exact ⟨0, L.length, by omega, by omega, by omega, rfl, by go_num⟩
    case round =>
      obtain ⟨i, t, hi, ht0, ht, rfl, rfl⟩ := hrel
      by_cases hlt : i < L.length
      · obtain ⟨b, off, rfl, hb1, hb2⟩ := HH.out (by omega)
        obtain ⟨R, hR1, hR2⟩ := drop_atL hlt
        obtain ⟨rv, c1, ra, rcap, rfl, hr⟩ := hb2 i R hR1
        have HR : Hid (0 < R.length → ∃ b off, ra = some ⟨b, off, none⟩ ∧ b < w.heap.size ∧ ∀ j s, R[j]? = some s → w.cell? ⟨b, off + j, none⟩ = some (.string s)) := hr
        clear HH
        clear hr hb2 hR1 hR2
        by_cases q0 : R.length ≤ 1048576
        · obtain ⟨T, hT⟩ : ∃ T : Int, T = t + (R.length : Int) := ⟨_, rfl⟩
          have hT0 : 0 ≤ T := by omega
          have hT1 : T ≤ 3000000 := by omega
          go_upto_region 13 with fail
          rw [← hT]
          clear hT
          by_cases q1 : T ≤ 1048576
          · go_wp2
            go_loop [7, 9] (fun st sk => ∃ (k : Nat) (t' : Int), k ≤ R.length ∧ 0 ≤ t' ∧ t' ≤ 1048576 ∧ sk = .int .i64 k ∧ st = .int .i64 t') (fun _ sk => R.length - (intOf sk).toNat)
            case atStart => exact ⟨0, T, by omega, by omega, by omega, rfl, rfl⟩
            case round =>
              obtain ⟨k, t', hk, ht0', ht', rfl, rfl⟩ := hrel
              by_cases hkl : k < R.length
              · obtain ⟨b', off', rfl, hb1', hb2'⟩ := HR.out (by omega)
                obtain ⟨s, hs1, hs2⟩ := drop_atS hkl
                have c2 := hb2' k s hs1
                clear hs1 hs2 hb2'
                by_cases q2 : s.size ≤ 1048576
                · obtain ⟨T2, hT2⟩ : ∃ T2 : Int, T2 = t' + (s.size : Int) := ⟨_, rfl⟩
                  have hT20 : 0 ≤ T2 := by omega
                  have hT21 : T2 ≤ 3000000 := by omega
                  go_upto_region 21 with fail
                  rw [← hT2]
                  clear hT2
                  by_cases q3 : T2 ≤ 1048576
                  · go_wp2
                    go_round
                    case rel => exact ⟨k + 1, T2, by omega, by omega, by omega, by go_num, rfl⟩
                    case measure => simp [intOf]; omega
                  · go_wp2
                    go_ret
                    exact ⟨RetB.intro (r := false) trivial, rfl⟩
                · go_wp2
                  go_ret
                  exact ⟨RetB.intro (r := false) trivial, rfl⟩
              · go_wp2
                go_round
                case rel => exact ⟨i + 1, t', by omega, by omega, by omega, by go_num, rfl⟩
                case measure => simp [intOf]; omega
          · go_wp2
            go_ret
            exact ⟨RetB.intro (r := false) trivial, rfl⟩
        · go_wp2
          go_ret
          exact ⟨RetB.intro (r := false) trivial, rfl⟩
      · clear HH
        by_cases q1 : d.size ≤ 1048576
        · obtain ⟨T, hT⟩ : ∃ T : Int, T = t + (d.size : Int) := ⟨_, rfl⟩
          have hT0 : 0 ≤ T := by omega
          have hT1 : T ≤ 3000000 := by omega
          go_upto_region 26 with fail
          rw [← hT]
          clear hT
          by_cases q2 : T ≤ 1048576
          · by_cases q3 : e'.size ≤ 1048576
            · obtain ⟨T2, hT2⟩ : ∃ T2 : Int, T2 = T + (e'.size : Int) := ⟨_, rfl⟩
              have hT20 : 0 ≤ T2 := by omega
              have hT21 : T2 ≤ 3000000 := by omega
              go_upto_region 31 with fail
              rw [← hT2]
              clear hT2
              by_cases q4 : T2 ≤ 1048576
              · go_wp2
                go_ret
                exact ⟨RetB.intro (r := true) trivial, rfl⟩
              · go_wp2
                go_ret
                exact ⟨RetB.intro (r := false) trivial, rfl⟩
            · go_wp2
              go_ret
              exact ⟨RetB.intro (r := false) trivial, rfl⟩
          · go_wp2
            go_ret
            exact ⟨RetB.intro (r := false) trivial, rfl⟩
        · go_wp2
          go_ret
          exact ⟨RetB.intro (r := false) trivial, rfl⟩
  · go_enter Try.func13, Try.ntmps13
    go_wp2
    go_ret
    exact ⟨RetB.intro (r := false) trivial, rfl⟩
end Go.Proofs.Qxb6617250a
