/-
  THE LAW, every case.
-/
import Derived.Test.Qxb6623454aW0
import Derived.Test.Qxb6623454aW1
import Derived.Test.Qxb6623454aW2
import Derived.Test.Qxb6623454aW3
import Derived.Test.Qxb6623454aW4
import Derived.Test.Qxb6623454aW5
namespace Go.Proofs.Qxb6623454a
open Go.RowKit
set_option linter.unusedVariables false

set_option maxRecDepth 100000 in
set_option maxHeartbeats 1000000 in
theorem long (a0 : Option Addr) (len0 cap0 : Nat) (a1 : Option Addr) (len1 cap1 : Nat) (a2 a3 a4 : Int) (w : World) (hfit : len0 + len1 ≤ 1048576) (h : ¬ (len0 ≤ 65536 ∧ len1 ≤ 65536)) :
    Calls Try.prog 3 #[.slice a0 len0 cap0, .slice a1 len1 cap1, .int .i64 a2, .int .i64 a3, .int .i64 a4] w fun e w' => e = .returned (.bool true) ∧ Below w.heap.size w w' := by
  by_cases h0 : len0 ≤ 65536
  · have d0 : decide ((65536 : Int) < (len0 : Int)) = false := decide_eq_false (by omega)
    have d1 : decide ((65536 : Int) < (len1 : Int)) = true := decide_eq_true (by omega)
    clear h
    go_enter Try.func3, Try.ntmps3
    go_wp2_with (go_at_call 4; refine (bytes_yes _ _ _ _ _ _ _ _ _ _ hfit).mono ?_; rintro e w' ⟨rfl, rfl⟩)
    go_ret
    exact ⟨rfl, Below.refl _ _⟩
  · have d0 : decide ((65536 : Int) < (len0 : Int)) = true := decide_eq_true (by omega)
    clear h
    go_enter Try.func3, Try.ntmps3
    go_wp2_with (go_at_call 4; refine (bytes_yes _ _ _ _ _ _ _ _ _ _ hfit).mono ?_; rintro e w' ⟨rfl, rfl⟩)
    go_ret
    exact ⟨rfl, Below.refl _ _⟩

set_option maxRecDepth 100000 in
set_option maxHeartbeats 1000000 in
theorem unfit (a0 : Option Addr) (len0 cap0 : Nat) (a1 : Option Addr) (len1 cap1 : Nat) (a2 a3 a4 : Int) (w : World) (h0 : len0 ≤ maxLen) (h1 : len1 ≤ maxLen) (hfit : ¬ len0 + len1 ≤ 1048576) :
    Calls Try.prog 3 #[.slice a0 len0 cap0, .slice a1 len1 cap1, .int .i64 a2, .int .i64 a3, .int .i64 a4] w fun e w' => e = .returned (.bool true) ∧ Below w.heap.size w w' := by
  go_enter Try.func3, Try.ntmps3
  go_wp2_with (go_at_call 4; refine (bytes_no _ _ _ _ _ _ _ _ _ _ h0 h1 hfit).mono ?_; rintro e w' ⟨rfl, rfl⟩)
  go_ret
  exact ⟨rfl, Below.refl _ _⟩

theorem law_any (a0 : Option Addr) (len0 cap0 : Nat) (z0 : List Int) (a1 : Option Addr) (len1 cap1 : Nat) (z1 : List Int) (a2 a3 a4 : Int) (w : World) (w0 : IsRow .i64 w a0 len0 cap0 z0) (w1 : IsRow .i64 w a1 len1 cap1 z1) :
    Calls Try.prog 3 #[.slice a0 len0 cap0, .slice a1 len1 cap1, .int .i64 a2, .int .i64 a3, .int .i64 a4] w fun e w' => e = .returned (.bool true) ∧ Below w.heap.size w w' := by
  by_cases hfit : len0 + len1 ≤ 1048576
  · by_cases hl : len0 ≤ 65536 ∧ len1 ≤ 65536
    · obtain ⟨hl0, hl1⟩ := hl
      by_cases he : len0 = len1
      · subst he
        by_cases c1 : a2 < 0
        · exact walk_out1 a0 len0 cap0 z0 a1 cap1 z1 a2 a3 a4 w w0 w1 hfit hl0 c1
        · by_cases c2 : (len0 : Int) < a2
          · exact walk_out2 a0 len0 cap0 z0 a1 cap1 z1 a2 a3 a4 w w0 w1 hfit hl0 c1 c2
          · obtain ⟨c, rfl⟩ : ∃ c : Nat, a2 = (c : Int) := ⟨a2.toNat, by omega⟩
            have hc : c ≤ len0 := by omega
            by_cases c3 : a4 = 0
            · subst c3
              by_cases hn : len0 < 1
              · exact walk_nil0 a0 len0 cap0 z0 a1 cap1 z1 a3 w w0 w1 hfit hl0 c hc hn
              · by_cases c4 : c = 0
                · subst c4
                  exact walk_main00 a0 len0 cap0 z0 a1 cap1 z1 a3 w w0 w1 hfit hl0 (by omega)
                · exact walk_main0 a0 len0 cap0 z0 a1 cap1 z1 a3 w w0 w1 hfit hl0 c (by omega) hc (by omega)
            · have h4 : (a4 == 0) = false := by rw [beq_eq_false_iff_ne]; exact c3
              by_cases hn : len0 < 1
              · obtain rfl : c = len0 := by omega
                exact walk_nil1 a0 c cap0 z0 a1 cap1 z1 a3 a4 w w0 w1 hfit hl0 h4 hn
              · by_cases c5 : c < len0
                · exact walk_main1 a0 len0 cap0 z0 a1 cap1 z1 a3 a4 w w0 w1 hfit hl0 h4 c c5 hc (by omega)
                · obtain rfl : c = len0 := by omega
                  exact walk_main2 a0 c cap0 z0 a1 cap1 z1 a3 a4 w w0 w1 hfit hl0 h4 (by omega)
      · exact walk_uneq a0 len0 cap0 z0 a1 len1 cap1 z1 a2 a3 a4 w w0 w1 hfit hl0 hl1 (by omega)
    · exact long a0 len0 cap0 a1 len1 cap1 a2 a3 a4 w hfit hl
  · exact unfit a0 len0 cap0 a1 len1 cap1 a2 a3 a4 w w0.len_le w1.len_le hfit
end Go.Proofs.Qxb6623454a
