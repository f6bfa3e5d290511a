/-
  THE WALK of FnSumAtMostOfTwoAmounts (6): one theorem for each way through.
-/
import Derived.Test.Qxb6608657aSums
namespace Go.Proofs.Qxb6608657a
open Go.RowKit
set_option linter.unusedVariables false

theorem atm_t {h l n : Int} (a : h = 0) (b : l ≤ n) : atm h l n = true := by simp [atm, a, b]
theorem atm_f {h l n : Int} (a : h ≠ 0 ∨ n < l) : atm h l n = false := by
  simp only [atm, decide_eq_false_iff_not]
  omega

set_option maxHeartbeats 1000000 in
theorem two_A1 (a b n : Int) (w : World) (a0 : 0 ≤ a) (a1 : a < 18446744073709551616) (b0 : 0 ≤ b) (b1 : b < 18446744073709551616) (n0 : 0 ≤ n) (n1 : n < 18446744073709551616)
    (c : a + b < 18446744073709551616) (g1 : b ≤ n) (g2 : a ≤ n - b) (g3 : n < 18446744073709551615) :
    Calls Try.prog 6 #[.int .u64 a, .int .u64 b, .int .u64 n] w fun e w' => e = .returned (.bool true) ∧ Grown w w' := by
  have e1 : atm 0 (a + b) n = true := atm_t rfl (by omega)
  have e2 : atm 0 (a + b + 1) (n + 1) = true := atm_t rfl (by omega)
  go_enter Try.func6, Try.ntmps6
  go_wp2_with (first | (go_at_call 10; refine (newSum_any _ _ _).mono ?_; rintro e w' ⟨rfl, k1, rfl⟩) | (go_at_call 13; refine (atMost_any _ _ _ _).mono ?_; rintro e w' ⟨rfl, k1, rfl⟩))
  go_ret
  exact ⟨rfl, by repeat (first | exact Grown.refl _ | apply Grown.drew | apply Grown.alloc)⟩

set_option maxHeartbeats 1000000 in
theorem two_A1m (a b : Int) (w : World) (a0 : 0 ≤ a) (a1 : a < 18446744073709551616) (b0 : 0 ≤ b) (b1 : b < 18446744073709551616)
    (c : a + b < 18446744073709551616) (g2 : a ≤ 18446744073709551615 - b) :
    Calls Try.prog 6 #[.int .u64 a, .int .u64 b, .int .u64 18446744073709551615] w fun e w' => e = .returned (.bool true) ∧ Grown w w' := by
  have e1 : atm 0 (a + b) 18446744073709551615 = true := atm_t rfl (by omega)
  go_enter Try.func6, Try.ntmps6
  go_wp2_with (first | (go_at_call 10; refine (newSum_any _ _ _).mono ?_; rintro e w' ⟨rfl, k1, rfl⟩) | (go_at_call 13; refine (atMost_any _ _ _ _).mono ?_; rintro e w' ⟨rfl, k1, rfl⟩))
  go_ret
  exact ⟨rfl, by repeat (first | exact Grown.refl _ | apply Grown.drew | apply Grown.alloc)⟩

set_option maxHeartbeats 1000000 in
theorem two_A2 (a b n : Int) (w : World) (a0 : 0 ≤ a) (a1 : a < 18446744073709551616) (b0 : 0 ≤ b) (b1 : b < 18446744073709551616) (n0 : 0 ≤ n) (n1 : n < 18446744073709551616)
    (c : a + b < 18446744073709551615) (g1 : b ≤ n) (g2 : n - b < a) (d2 : decide (a ≤ n - b) = false) (g3 : n < 18446744073709551615) :
    Calls Try.prog 6 #[.int .u64 a, .int .u64 b, .int .u64 n] w fun e w' => e = .returned (.bool true) ∧ Grown w w' := by
  have e1 : atm 0 (a + b) n = false := atm_f (by omega)
  have e2 : atm 0 (a + b + 1) (n + 1) = false := atm_f (by omega)
  go_enter Try.func6, Try.ntmps6
  go_wp2_with (first | (go_at_call 10; refine (newSum_any _ _ _).mono ?_; rintro e w' ⟨rfl, k1, rfl⟩) | (go_at_call 13; refine (atMost_any _ _ _ _).mono ?_; rintro e w' ⟨rfl, k1, rfl⟩))
  go_ret
  exact ⟨rfl, by repeat (first | exact Grown.refl _ | apply Grown.drew | apply Grown.alloc)⟩

set_option maxHeartbeats 1000000 in
theorem two_A2w (a b n : Int) (w : World) (a0 : 0 ≤ a) (a1 : a < 18446744073709551616) (b0 : 0 ≤ b) (b1 : b < 18446744073709551616) (n0 : 0 ≤ n) (n1 : n < 18446744073709551616)
    (c : a + b < 18446744073709551616) (c' : 18446744073709551615 ≤ a + b) (g1 : b ≤ n) (g2 : n - b < a) (d2 : decide (a ≤ n - b) = false) (g3 : n < 18446744073709551615) :
    Calls Try.prog 6 #[.int .u64 a, .int .u64 b, .int .u64 n] w fun e w' => e = .returned (.bool true) ∧ Grown w w' := by
  have e0 : IntKind.u64.wrap (a + b + 1) = 0 := by rw [IntKind.wrap_u64]; omega
  have e1 : atm 0 (a + b) n = false := atm_f (by omega)
  have e2 : atm 1 0 (n + 1) = false := atm_f (by omega)
  go_enter Try.func6, Try.ntmps6
  go_wp2_with (first | (go_at_call 10; refine (newSum_any _ _ _).mono ?_; rintro e w' ⟨rfl, k1, rfl⟩) | (go_at_call 13; refine (atMost_any _ _ _ _).mono ?_; rintro e w' ⟨rfl, k1, rfl⟩))
  go_ret
  exact ⟨rfl, by repeat (first | exact Grown.refl _ | apply Grown.drew | apply Grown.alloc)⟩

set_option maxHeartbeats 1000000 in
theorem two_A3 (a b n : Int) (w : World) (a0 : 0 ≤ a) (a1 : a < 18446744073709551616) (b0 : 0 ≤ b) (b1 : b < 18446744073709551616) (n0 : 0 ≤ n) (n1 : n < 18446744073709551616)
    (c : a + b < 18446744073709551615) (g1 : n < b) (g3 : n < 18446744073709551615) :
    Calls Try.prog 6 #[.int .u64 a, .int .u64 b, .int .u64 n] w fun e w' => e = .returned (.bool true) ∧ Grown w w' := by
  have e1 : atm 0 (a + b) n = false := atm_f (by omega)
  have e2 : atm 0 (a + b + 1) (n + 1) = false := atm_f (by omega)
  go_enter Try.func6, Try.ntmps6
  go_wp2_with (first | (go_at_call 10; refine (newSum_any _ _ _).mono ?_; rintro e w' ⟨rfl, k1, rfl⟩) | (go_at_call 13; refine (atMost_any _ _ _ _).mono ?_; rintro e w' ⟨rfl, k1, rfl⟩))
  go_ret
  exact ⟨rfl, by repeat (first | exact Grown.refl _ | apply Grown.drew | apply Grown.alloc)⟩

set_option maxHeartbeats 1000000 in
theorem two_A3w (a b n : Int) (w : World) (a0 : 0 ≤ a) (a1 : a < 18446744073709551616) (b0 : 0 ≤ b) (b1 : b < 18446744073709551616) (n0 : 0 ≤ n) (n1 : n < 18446744073709551616)
    (c : a + b < 18446744073709551616) (c' : 18446744073709551615 ≤ a + b) (g1 : n < b) (g3 : n < 18446744073709551615) :
    Calls Try.prog 6 #[.int .u64 a, .int .u64 b, .int .u64 n] w fun e w' => e = .returned (.bool true) ∧ Grown w w' := by
  have e0 : IntKind.u64.wrap (a + b + 1) = 0 := by rw [IntKind.wrap_u64]; omega
  have e1 : atm 0 (a + b) n = false := atm_f (by omega)
  have e2 : atm 1 0 (n + 1) = false := atm_f (by omega)
  go_enter Try.func6, Try.ntmps6
  go_wp2_with (first | (go_at_call 10; refine (newSum_any _ _ _).mono ?_; rintro e w' ⟨rfl, k1, rfl⟩) | (go_at_call 13; refine (atMost_any _ _ _ _).mono ?_; rintro e w' ⟨rfl, k1, rfl⟩))
  go_ret
  exact ⟨rfl, by repeat (first | exact Grown.refl _ | apply Grown.drew | apply Grown.alloc)⟩

set_option maxHeartbeats 1000000 in
theorem two_B1 (a b n : Int) (w : World) (a0 : 0 ≤ a) (a1 : a < 18446744073709551616) (b0 : 0 ≤ b) (b1 : b < 18446744073709551616) (n0 : 0 ≤ n) (n1 : n < 18446744073709551616) (lo : Int)
    (e0 : IntKind.u64.wrap (a + b) = lo) (l0 : 0 ≤ lo) (l1 : lo < 18446744073709551615) (l2 : lo < a) (g1 : b ≤ n) (g2 : n - b < a) (d2 : decide (a ≤ n - b) = false) (g3 : n < 18446744073709551615) :
    Calls Try.prog 6 #[.int .u64 a, .int .u64 b, .int .u64 n] w fun e w' => e = .returned (.bool true) ∧ Grown w w' := by
  have e1 : atm 1 lo n = false := atm_f (by omega)
  have e2 : atm 1 (lo + 1) (n + 1) = false := atm_f (by omega)
  go_enter Try.func6, Try.ntmps6
  go_wp2_with (first | (go_at_call 10; refine (newSum_any _ _ _).mono ?_; rintro e w' ⟨rfl, k1, rfl⟩) | (go_at_call 13; refine (atMost_any _ _ _ _).mono ?_; rintro e w' ⟨rfl, k1, rfl⟩))
  go_ret
  exact ⟨rfl, by repeat (first | exact Grown.refl _ | apply Grown.drew | apply Grown.alloc)⟩

set_option maxHeartbeats 1000000 in
theorem two_B3 (a b n : Int) (w : World) (a0 : 0 ≤ a) (a1 : a < 18446744073709551616) (b0 : 0 ≤ b) (b1 : b < 18446744073709551616) (n0 : 0 ≤ n) (n1 : n < 18446744073709551616) (lo : Int)
    (e0 : IntKind.u64.wrap (a + b) = lo) (l0 : 0 ≤ lo) (l1 : lo < 18446744073709551615) (l2 : lo < a) (g1 : n < b) (g3 : n < 18446744073709551615) :
    Calls Try.prog 6 #[.int .u64 a, .int .u64 b, .int .u64 n] w fun e w' => e = .returned (.bool true) ∧ Grown w w' := by
  have e1 : atm 1 lo n = false := atm_f (by omega)
  have e2 : atm 1 (lo + 1) (n + 1) = false := atm_f (by omega)
  go_enter Try.func6, Try.ntmps6
  go_wp2_with (first | (go_at_call 10; refine (newSum_any _ _ _).mono ?_; rintro e w' ⟨rfl, k1, rfl⟩) | (go_at_call 13; refine (atMost_any _ _ _ _).mono ?_; rintro e w' ⟨rfl, k1, rfl⟩))
  go_ret
  exact ⟨rfl, by repeat (first | exact Grown.refl _ | apply Grown.drew | apply Grown.alloc)⟩

set_option maxHeartbeats 1000000 in
theorem two_B1m (a b : Int) (w : World) (a0 : 0 ≤ a) (a1 : a < 18446744073709551616) (b0 : 0 ≤ b) (b1 : b < 18446744073709551616) (lo : Int)
    (e0 : IntKind.u64.wrap (a + b) = lo) (l0 : 0 ≤ lo) (l1 : lo < 18446744073709551615) (l2 : lo < a) (g2 : 18446744073709551615 - b < a) (d2 : decide (a ≤ 18446744073709551615 - b) = false) :
    Calls Try.prog 6 #[.int .u64 a, .int .u64 b, .int .u64 18446744073709551615] w fun e w' => e = .returned (.bool true) ∧ Grown w w' := by
  have e1 : atm 1 lo 18446744073709551615 = false := atm_f (by omega)
  go_enter Try.func6, Try.ntmps6
  go_wp2_with (first | (go_at_call 10; refine (newSum_any _ _ _).mono ?_; rintro e w' ⟨rfl, k1, rfl⟩) | (go_at_call 13; refine (atMost_any _ _ _ _).mono ?_; rintro e w' ⟨rfl, k1, rfl⟩))
  go_ret
  exact ⟨rfl, by repeat (first | exact Grown.refl _ | apply Grown.drew | apply Grown.alloc)⟩

theorem two_walk (a b n : Int) (ha : Word a) (hb : Word b) (hn : Word n) (w : World) :
    Calls Try.prog 6 #[.int .u64 a, .int .u64 b, .int .u64 n] w fun e w' => e = .returned (.bool true) ∧ Grown w w' := by
  obtain ⟨a0, a1⟩ := ha; obtain ⟨b0, b1⟩ := hb; obtain ⟨n0, n1⟩ := hn
  by_cases c : a + b < 18446744073709551616
  · by_cases g : a + b ≤ n
    · by_cases m : n = 18446744073709551615
      · subst m; exact two_A1m a b w a0 a1 b0 b1 c (by omega)
      · exact two_A1 a b n w a0 a1 b0 b1 n0 n1 c (by omega) (by omega) (by omega)
    · by_cases g1 : b ≤ n
      · by_cases c' : a + b < 18446744073709551615
        · exact two_A2 a b n w a0 a1 b0 b1 n0 n1 c' g1 (by omega) (decide_eq_false (by omega)) (by omega)
        · exact two_A2w a b n w a0 a1 b0 b1 n0 n1 c (by omega) g1 (by omega) (decide_eq_false (by omega)) (by omega)
      · by_cases c' : a + b < 18446744073709551615
        · exact two_A3 a b n w a0 a1 b0 b1 n0 n1 c' (by omega) (by omega)
        · exact two_A3w a b n w a0 a1 b0 b1 n0 n1 c (by omega) (by omega) (by omega)
  · have e0 : IntKind.u64.wrap (a + b) = a + b - 18446744073709551616 := by rw [IntKind.wrap_u64]; omega
    by_cases m : n = 18446744073709551615
    · subst m; exact two_B1m a b w a0 a1 b0 b1 _ e0 (by omega) (by omega) (by omega) (by omega) (decide_eq_false (by omega))
    · by_cases g1 : b ≤ n
      · exact two_B1 a b n w a0 a1 b0 b1 n0 n1 _ e0 (by omega) (by omega) (by omega) g1 (by omega) (decide_eq_false (by omega)) (by omega)
      · exact two_B3 a b n w a0 a1 b0 b1 n0 n1 _ e0 (by omega) (by omega) (by omega) (by omega) (by omega)
end Go.Proofs.Qxb6608657a
