/-
  zzEngB1Sign128 (12), and THE WALK of FnSumCmpAgreesWithSubtraction (3).
-/
import Derived.Test.Qxb6608657aSums
namespace Go.Proofs.Qxb6608657a
open Go.RowKit

/-- The difference of two 128-bit numbers is nought exactly where they are equal. -/
theorem diff_zero {xh xl yh yl : Int} (h1 : Word xh) (h2 : Word xl) (h3 : Word yh) (h4 : Word yl) (hb : ¬ (xh < yh ∨ (xh = yh ∧ xl < yl))) :
    bits .or .u64 ((xh - yh - bor xl yl) % 18446744073709551616) ((xl - yl) % 18446744073709551616) = 0 ↔ xh = yh ∧ xl = yl := by
  rw [or_zero _ _ (word_mod _) (word_mod _)]
  unfold bor
  obtain ⟨_, _⟩ := h1; obtain ⟨_, _⟩ := h2; obtain ⟨_, _⟩ := h3; obtain ⟨_, _⟩ := h4
  split <;> omega
theorem brw_1 {xh xl yh yl : Int} (h : xh < yh ∨ (xh = yh ∧ xl < yl)) : brw xh xl yh yl = 1 := by unfold brw; rw [if_pos h]
theorem brw_0 {xh xl yh yl : Int} (h : ¬ (xh < yh ∨ (xh = yh ∧ xl < yl))) : brw xh xl yh yl = 0 := by unfold brw; rw [if_neg h]

set_option maxHeartbeats 400000 in
/-- zzEngB1Sign128 gives what Cmp gives. -/
theorem sign_any (xh xl yh yl : Int) (h1 : Word xh) (h2 : Word xl) (h3 : Word yh) (h4 : Word yl) (w : World) :
    Calls Try.prog 12 #[.int .u64 xh, .int .u64 xl, .int .u64 yh, .int .u64 yl] w fun e w' =>
      e = .returned (.int .i64 (cmpI xh xl yh yl)) ∧ w' = w := by
  by_cases c : xh < yh ∨ (xh = yh ∧ xl < yl)
  · have hb := brw_1 c
    have hr : Hid (cmpI xh xl yh yl = -1) := cmpI_lt c
    clear c
    go_enter Try.func12, Try.ntmps12
    go_wp2_with (go_at_call 14; refine (sub128_any xh xl yh yl h1 h2 h3 h4 _).mono ?_; rintro e w' ⟨rfl, rfl⟩)
    go_ret
    exact ⟨ret_int hr.out.symm, rfl⟩
  · have hb := brw_0 c
    have hz := diff_zero h1 h2 h3 h4 c
    by_cases d : xh = yh ∧ xl = yl
    · have ho := hz.mpr d
      have hr : Hid (cmpI xh xl yh yl = 0) := by obtain ⟨rfl, rfl⟩ := d; exact cmpI_eq _ _
      clear c d hz
      go_enter Try.func12, Try.ntmps12
      go_wp2_with (go_at_call 14; refine (sub128_any xh xl yh yl h1 h2 h3 h4 _).mono ?_; rintro e w' ⟨rfl, rfl⟩)
      go_ret
      exact ⟨ret_int hr.out.symm, rfl⟩
    · have ho : ¬ _ := fun h => d (hz.mp h)
      have hr : Hid (cmpI xh xl yh yl = 1) := cmpI_gt (by omega)
      clear c d hz
      go_enter Try.func12, Try.ntmps12
      go_wp2_with (go_at_call 14; refine (sub128_any xh xl yh yl h1 h2 h3 h4 _).mono ?_; rintro e w' ⟨rfl, rfl⟩)
      go_ret
      exact ⟨ret_int hr.out.symm, rfl⟩

end Go.Proofs.Qxb6608657a
