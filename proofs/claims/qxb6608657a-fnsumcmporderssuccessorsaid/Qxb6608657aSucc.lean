/-
  THE WALK of FnSumCmpOrdersSuccessor (4).
-/
import Derived.Test.Qxb6608657aSums
namespace Go.Proofs.Qxb6608657a
open Go.RowKit

theorem word_of_wf {x : Int} (h : (Lit.int .u64 x).wf = true) : Word x := by
  simp [Lit.wf, IntKind.min, IntKind.max, IntKind.signed, IntKind.bits] at h
  exact ⟨by omega, by omega⟩

set_option maxHeartbeats 1000000 in
theorem succ_hiMax (a1 : Int) (q0 : 0 ≤ a1) (q1 : a1 < 18446744073709551615) (w : World) :
    Calls Try.prog 4 #[.int .u64 18446744073709551615, .int .u64 a1] w fun e w' => e = .returned (.bool true) ∧ Grown w w' := by
  have e1 : cmpI 18446744073709551615 a1 18446744073709551615 (a1 + 1) = -1 := cmpI_lt (by omega)
  have e2 : cmpI 18446744073709551615 (a1 + 1) 18446744073709551615 a1 = 1 := cmpI_gt (by omega)
  have e3 := cmpI_eq 18446744073709551615 a1
  have e4 := cmpI_eq 18446744073709551615 (a1 + 1)
  go_enter Try.func4, Try.ntmps4
  go_wp2_with (first | (go_at_call 10; refine (newSum_any _ _ _).mono ?_; rintro e w' ⟨rfl, k1, rfl⟩) | (go_at_call 11; refine (cmp_any _ _ _ _ _).mono ?_; rintro e w' ⟨rfl, k1, k2, rfl⟩))
  go_ret
  exact ⟨rfl, by repeat (first | exact Grown.refl _ | apply Grown.drew | apply Grown.alloc)⟩

set_option maxHeartbeats 1000000 in
theorem succ_loMax (a0 : Int) (p0 : 0 ≤ a0) (p1 : a0 < 18446744073709551615) (w : World) :
    Calls Try.prog 4 #[.int .u64 a0, .int .u64 18446744073709551615] w fun e w' => e = .returned (.bool true) ∧ Grown w w' := by
  have e0 : IntKind.u64.wrap 18446744073709551616 = 0 := by decide
  have e1 : cmpI a0 18446744073709551615 (a0 + 1) 0 = -1 := cmpI_lt (by omega)
  have e2 : cmpI (a0 + 1) 0 a0 18446744073709551615 = 1 := cmpI_gt (by omega)
  have e3 := cmpI_eq a0 18446744073709551615
  have e4 := cmpI_eq (a0 + 1) 0
  go_enter Try.func4, Try.ntmps4
  go_wp2_with (first | (go_at_call 10; refine (newSum_any _ _ _).mono ?_; rintro e w' ⟨rfl, k1, rfl⟩) | (go_at_call 11; refine (cmp_any _ _ _ _ _).mono ?_; rintro e w' ⟨rfl, k1, k2, rfl⟩))
  go_ret
  exact ⟨rfl, by repeat (first | exact Grown.refl _ | apply Grown.drew | apply Grown.alloc)⟩

set_option maxHeartbeats 1000000 in
theorem succ_plain (a0 a1 : Int) (p0 : 0 ≤ a0) (p1 : a0 < 18446744073709551615) (q0 : 0 ≤ a1) (q1 : a1 < 18446744073709551615) (w : World) :
    Calls Try.prog 4 #[.int .u64 a0, .int .u64 a1] w fun e w' => e = .returned (.bool true) ∧ Grown w w' := by
  have e1 : cmpI a0 a1 a0 (a1 + 1) = -1 := cmpI_lt (by omega)
  have e2 : cmpI a0 (a1 + 1) a0 a1 = 1 := cmpI_gt (by omega)
  have e3 := cmpI_eq a0 a1
  have e4 := cmpI_eq a0 (a1 + 1)
  go_enter Try.func4, Try.ntmps4
  go_wp2_with (first | (go_at_call 10; refine (newSum_any _ _ _).mono ?_; rintro e w' ⟨rfl, k1, rfl⟩) | (go_at_call 11; refine (cmp_any _ _ _ _ _).mono ?_; rintro e w' ⟨rfl, k1, k2, rfl⟩))
  go_ret
  exact ⟨rfl, by repeat (first | exact Grown.refl _ | apply Grown.drew | apply Grown.alloc)⟩

theorem succ_top (w : World) :
    Calls Try.prog 4 #[.int .u64 18446744073709551615, .int .u64 18446744073709551615] w fun e w' => e = .returned (.bool true) ∧ Grown w w' := by
  go_enter Try.func4, Try.ntmps4
  go_wp2
  go_ret
  exact ⟨rfl, Grown.refl _⟩

theorem succ_walk (a0 a1 : Int) (h0 : Word a0) (h1 : Word a1) (w : World) :
    Calls Try.prog 4 #[.int .u64 a0, .int .u64 a1] w fun e w' => e = .returned (.bool true) ∧ Grown w w' := by
  obtain ⟨p0, p1⟩ := h0; obtain ⟨q0, q1⟩ := h1
  by_cases c0 : a0 = 18446744073709551615
  · subst c0
    by_cases c1 : a1 = 18446744073709551615
    · subst c1; exact succ_top w
    · exact succ_hiMax a1 q0 (by omega) w
  · by_cases c1 : a1 = 18446744073709551615
    · subst c1; exact succ_loMax a0 p0 (by omega) w
    · exact succ_plain a0 a1 p0 (by omega) q0 (by omega) w
end Go.Proofs.Qxb6608657a
