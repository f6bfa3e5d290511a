/-
  THE WALK of FnSumCmpAgreesWithSubtraction (3).
-/
import Derived.Test.Qxb6608657aSign
namespace Go.Proofs.Qxb6608657a
open Go.RowKit

set_option maxHeartbeats 1000000 in
theorem agree_of (sh sl th tl c d : Int) (h1 : Word sh) (h2 : Word sl) (h3 : Word th) (h4 : Word tl) (e1 : cmpI sh sl th tl = c) (e2 : cmpI th tl sh sl = d)
    (hc : c = -1 ∧ d = 1 ∨ c = 0 ∧ d = 0 ∨ c = 1 ∧ d = -1) (w : World) :
    Calls Try.prog 3 #[.int .u64 sh, .int .u64 sl, .int .u64 th, .int .u64 tl] w fun e w' => e = .returned (.bool true) ∧ Grown w w' := by
  rcases hc with ⟨rfl, rfl⟩ | ⟨rfl, rfl⟩ | ⟨rfl, rfl⟩
  all_goals
    go_enter Try.func3, Try.ntmps3
    go_wp2_with (first | (go_at_call 10; refine (newSum_any _ _ _).mono ?_; rintro e w' ⟨rfl, k1, rfl⟩) | (go_at_call 11; refine (cmp_any _ _ _ _ _).mono ?_; rintro e w' ⟨rfl, k1, k2, rfl⟩) | (go_at_call 12; refine (sign_any sh sl th tl h1 h2 h3 h4 _).mono ?_; rintro e w' ⟨rfl, rfl⟩))
    go_ret
    exact ⟨rfl, by repeat (first | exact Grown.refl _ | apply Grown.drew | apply Grown.alloc)⟩

theorem agree_walk (sh sl th tl : Int) (h1 : Word sh) (h2 : Word sl) (h3 : Word th) (h4 : Word tl) (w : World) :
    Calls Try.prog 3 #[.int .u64 sh, .int .u64 sl, .int .u64 th, .int .u64 tl] w fun e w' => e = .returned (.bool true) ∧ Grown w w' := by
  by_cases c : sh < th ∨ (sh = th ∧ sl < tl)
  · exact agree_of sh sl th tl _ _ h1 h2 h3 h4 (cmpI_lt c) (cmpI_gt (by omega)) (.inl ⟨rfl, rfl⟩) w
  · by_cases d : sh = th ∧ sl = tl
    · obtain ⟨rfl, rfl⟩ := d
      exact agree_of sh sl sh sl _ _ h1 h2 h3 h4 (cmpI_eq _ _) (cmpI_eq _ _) (.inr (.inl ⟨rfl, rfl⟩)) w
    · exact agree_of sh sl th tl _ _ h1 h2 h3 h4 (cmpI_gt (by omega)) (cmpI_lt (by omega)) (.inr (.inr ⟨rfl, rfl⟩)) w

end Go.Proofs.Qxb6608657a
