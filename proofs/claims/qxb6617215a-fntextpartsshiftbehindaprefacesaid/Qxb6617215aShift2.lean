/-
  THE SECOND LAW, every case.
-/
import Derived.Test.Qxb6617215aShift
namespace Go.Proofs.Qxb6617215a
open Go.RowKit
set_option linter.unusedVariables false

set_option maxRecDepth 100000 in
set_option maxHeartbeats 4000000 in
theorem shift_any (P T : ByteArray) (a2 : Option Addr) (len cap2 : Nat) (z2 : List Int) (w : World) (w0 : P.size ≤ maxLen) (w1 : T.size ≤ maxLen) (w2 : IsRow .i64 w a2 len cap2 z2) :
    Calls Try.prog 4 #[.string P, .string T, .slice a2 len cap2] w fun e w' => e = .returned (.bool true) ∧ Below w.heap.size w w' := by
  by_cases hfit : P.size + T.size + len ≤ 1048576
  · by_cases hp : P.size ≤ 65536
    · by_cases hn : T.size ≤ 65536
      · by_cases hl : len ≤ 65536
        · by_cases hT : Turn len (fun i => z2.getD i 0)
          · exact shift_fit P T a2 len cap2 z2 w w2 hp hn hl hT
          · have HTC : Hid (Calls Try.prog 6 #[.slice a2 len cap2] w fun e w' => e = .returned (.bool false) ∧ Below w.heap.size w w') := turn_no w2 hl hT
            clear hT w2
            go_enter Try.func4, Try.ntmps4
            go_wp2_with (first | (go_at_call 8; refine (bytes2_yes _ _ _ _ _ _ hfit).mono ?_; rintro e w' ⟨rfl, rfl⟩) | (go_at_call 6; refine Calls.mono HTC.out ?_; rintro e w3 ⟨rfl, hb2⟩))
            go_ret
            exact ⟨rfl, hb2⟩
        · clear w2
          go_enter Try.func4, Try.ntmps4
          go_wp2_with (go_at_call 8; refine (bytes2_yes _ _ _ _ _ _ hfit).mono ?_; rintro e w' ⟨rfl, rfl⟩)
          go_ret
          exact ⟨rfl, Below.refl _ _⟩
      · clear w2
        go_enter Try.func4, Try.ntmps4
        go_wp2_with (go_at_call 8; refine (bytes2_yes _ _ _ _ _ _ hfit).mono ?_; rintro e w' ⟨rfl, rfl⟩)
        go_ret
        exact ⟨rfl, Below.refl _ _⟩
    · clear w2
      go_enter Try.func4, Try.ntmps4
      go_wp2_with (go_at_call 8; refine (bytes2_yes _ _ _ _ _ _ hfit).mono ?_; rintro e w' ⟨rfl, rfl⟩)
      go_ret
      exact ⟨rfl, Below.refl _ _⟩
  · have h1 := w2.len_le
    clear w2
    go_enter Try.func4, Try.ntmps4
    go_wp2_with (go_at_call 8; refine (bytes2_no _ _ _ _ _ _ w0 w1 h1 hfit).mono ?_; rintro e w' ⟨rfl, rfl⟩)
    go_ret
    exact ⟨rfl, Below.refl _ _⟩
end Go.Proofs.Qxb6617215a
