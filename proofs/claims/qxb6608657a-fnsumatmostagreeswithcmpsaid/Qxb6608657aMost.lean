/-
  THE WALK of FnSumAtMostAgreesWithCmp (5): 's.Cmp(engine.ZZnewSum(0, n))' is a region that draws its order.
-/
import Derived.Test.Qxb6608657aSign
import Derived.StillTactics
import Derived.Deep.RegionHeld3
namespace Go.Proofs.Qxb6608657a
open Go.RowKit

set_option maxHeartbeats 1000000 in
theorem most_t (sh sl n : Int) (h1 : Word sh) (h2 : Word sl) (h3 : Word n) (ea : atm sh sl n = true) (c : Int) (ec : cmpI sh sl 0 n = c) (c0 : c ≤ 0) (eb : brw 0 n sh sl = 0) (w : World) :
    Calls Try.prog 5 #[.int .u64 sh, .int .u64 sl, .int .u64 n] w fun e w' => e = .returned (.bool true) ∧ Grown w w' := by
  have hz : Word 0 := ⟨by decide, by decide⟩
  go_enter Try.func5, Try.ntmps5
  go_wp2_with (first | (go_at_call 10; refine (newSum_any _ _ _).mono ?_; rintro e w' ⟨rfl, k1, rfl⟩) | (go_at_call 13; refine (atMost_any _ _ _ _).mono ?_; rintro e w' ⟨rfl, k1, rfl⟩))
  go_region_held3 (fun w' => w'.cell? ⟨w.heap.size + 1, 0, none⟩ = some (.int .u64 sh) ∧ w'.cell? ⟨w.heap.size + 1, 1, none⟩ = some (.int .u64 sl)) (simp [go_sem, World.cell?_alloc_past])
    (first
      | (go_at_call 10; refine (newSum_any _ _ _).mono ?_; rintro e w' ⟨rfl, o1, rfl⟩)
      | (go_at_call 11; refine (cmp_any _ _ _ _ _).mono ?_; rintro e w' ⟨rfl, o1, o2, rfl⟩))
  go_wp2_with (go_at_call 14; refine (sub128_any 0 n sh sl hz h3 h1 h2 _).mono ?_; rintro e w' ⟨rfl, rfl⟩)
  go_ret
  exact ⟨rfl, by repeat (first | exact Grown.refl _ | apply Grown.drew | apply Grown.alloc)⟩

set_option maxHeartbeats 1000000 in
theorem most_f (sh sl n : Int) (h1 : Word sh) (h2 : Word sl) (h3 : Word n) (ea : atm sh sl n = false) (ec : cmpI sh sl 0 n = 1) (eb : brw 0 n sh sl = 1) (w : World) :
    Calls Try.prog 5 #[.int .u64 sh, .int .u64 sl, .int .u64 n] w fun e w' => e = .returned (.bool true) ∧ Grown w w' := by
  have hz : Word 0 := ⟨by decide, by decide⟩
  go_enter Try.func5, Try.ntmps5
  go_wp2_with (first | (go_at_call 10; refine (newSum_any _ _ _).mono ?_; rintro e w' ⟨rfl, k1, rfl⟩) | (go_at_call 13; refine (atMost_any _ _ _ _).mono ?_; rintro e w' ⟨rfl, k1, rfl⟩))
  go_region_held3 (fun w' => w'.cell? ⟨w.heap.size + 1, 0, none⟩ = some (.int .u64 sh) ∧ w'.cell? ⟨w.heap.size + 1, 1, none⟩ = some (.int .u64 sl)) (simp [go_sem, World.cell?_alloc_past])
    (first
      | (go_at_call 10; refine (newSum_any _ _ _).mono ?_; rintro e w' ⟨rfl, o1, rfl⟩)
      | (go_at_call 11; refine (cmp_any _ _ _ _ _).mono ?_; rintro e w' ⟨rfl, o1, o2, rfl⟩))
  go_wp2_with (go_at_call 14; refine (sub128_any 0 n sh sl hz h3 h1 h2 _).mono ?_; rintro e w' ⟨rfl, rfl⟩)
  go_ret
  exact ⟨rfl, by repeat (first | exact Grown.refl _ | apply Grown.drew | apply Grown.alloc)⟩

theorem most_walk (sh sl n : Int) (h1 : Word sh) (h2 : Word sl) (h3 : Word n) (w : World) :
    Calls Try.prog 5 #[.int .u64 sh, .int .u64 sl, .int .u64 n] w fun e w' => e = .returned (.bool true) ∧ Grown w w' := by
  have q1 := h1.1; have q2 := h2.1; have q3 := h3.1
  by_cases k : sh = 0 ∧ sl ≤ n
  · have eb : brw 0 n sh sl = 0 := brw_0 (by omega)
    have ea : atm sh sl n = true := by simp [atm, k]
    by_cases m : sl < n
    · exact most_t sh sl n h1 h2 h3 ea _ (cmpI_lt (by omega)) (by decide) eb w
    · have e0 : sh = 0 := k.1
      have e1 : sl = n := by omega
      subst e0 e1
      exact most_t 0 sl sl h1 h2 h3 ea _ (cmpI_eq _ _) (by decide) eb w
  · have eb : brw 0 n sh sl = 1 := brw_1 (by omega)
    have ea : atm sh sl n = false := by simp only [atm, decide_eq_false_iff_not]; exact k
    exact most_f sh sl n h1 h2 h3 ea (cmpI_gt (by omega)) eb w

end Go.Proofs.Qxb6608657a
