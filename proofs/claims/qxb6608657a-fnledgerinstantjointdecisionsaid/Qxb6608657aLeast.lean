/-
  THE WALK of FnLedgerInstantIsLeastAdmissible (7).
-/
import Derived.Test.Qxb6608657aLedg
namespace Go.Proofs.Qxb6608657a
open Go.RowKit

theorem or_isz {hh hl : Int} (h1 : Word hh) (h2 : Word hl) (z : isz hh hl = true) : bits .or .u64 hh hl = 0 := by
  rw [or_zero hh hl h1 h2]
  simpa [isz] using z
theorem or_pos {hh hl : Int} (h1 : Word hh) (h2 : Word hl) (z : isz hh hl = false) : 0 < bits .or .u64 hh hl := by
  have h : ¬ bits .or .u64 hh hl = 0 := by
    rw [or_zero hh hl h1 h2]
    simpa [isz] using z
  have k : 0 ≤ bits .or .u64 hh hl := by rw [u64_or hh hl h1.1 h1.2 h2.1 h2.2]; omega
  omega

set_option maxHeartbeats 1000000 in
theorem least_z (hh hl la now : Int) (hz : isz hh hl = true) (ho : bits .or .u64 hh hl = 0) (w : World) :
    Calls Try.prog 7 #[.int .u64 hh, .int .u64 hl, .int .i64 la, .int .i64 now] w fun e w' => e = .returned (.bool true) ∧ Grown w w' := by
  have e1 : inst hh hl la now = now := inst_z hz
  go_enter Try.func7, Try.ntmps7
  go_wp2_with fail
  refine (newLedger_any 0 hh hl la 0 0 _).mono ?_
  rintro e w' ⟨rfl, hL, C, rfl⟩
  go_wp2_with fail
  refine (instant_any _ 0 hh hl la 0 0 now _ hL).mono ?_
  rintro e w' ⟨rfl, k1, rfl⟩
  have hL2 := hL.alloc (.cells k1 24)
  go_wp2_with fail
  refine (instant_any _ 0 hh hl la 0 0 now _ hL2).mono ?_
  rintro e w' ⟨rfl, k2, rfl⟩
  go_wp2
  go_ret
  exact ⟨rfl, by repeat (first | exact Grown.refl _ | apply Grown.drew | apply Grown.alloc)⟩

set_option maxHeartbeats 1000000 in
theorem least_n (hh hl la now : Int) (hz : isz hh hl = false) (o : Int) (ho : bits .or .u64 hh hl = o) (ho' : 0 < o) (k : la ≤ now) (w : World) :
    Calls Try.prog 7 #[.int .u64 hh, .int .u64 hl, .int .i64 la, .int .i64 now] w fun e w' => e = .returned (.bool true) ∧ Grown w w' := by
  have e1 : inst hh hl la now = now := inst_n hz k
  go_enter Try.func7, Try.ntmps7
  go_wp2_with fail
  refine (newLedger_any 0 hh hl la 0 0 _).mono ?_
  rintro e w' ⟨rfl, hL, C, rfl⟩
  go_wp2_with fail
  refine (instant_any _ 0 hh hl la 0 0 now _ hL).mono ?_
  rintro e w' ⟨rfl, k1, rfl⟩
  have hL2 := hL.alloc (.cells k1 24)
  go_wp2_with fail
  refine (instant_any _ 0 hh hl la 0 0 now _ hL2).mono ?_
  rintro e w' ⟨rfl, k2, rfl⟩
  go_wp2
  go_ret
  exact ⟨rfl, by repeat (first | exact Grown.refl _ | apply Grown.drew | apply Grown.alloc)⟩

set_option maxHeartbeats 1000000 in
theorem least_l (hh hl la now : Int) (hz : isz hh hl = false) (o : Int) (ho : bits .or .u64 hh hl = o) (ho' : 0 < o) (k : now < la) (w : World) :
    Calls Try.prog 7 #[.int .u64 hh, .int .u64 hl, .int .i64 la, .int .i64 now] w fun e w' => e = .returned (.bool true) ∧ Grown w w' := by
  have e1 : inst hh hl la now = la := inst_l hz k
  have e2 : inst hh hl la la = la := inst_n hz (Int.le_refl _)
  go_enter Try.func7, Try.ntmps7
  go_wp2_with fail
  refine (newLedger_any 0 hh hl la 0 0 _).mono ?_
  rintro e w' ⟨rfl, hL, C, rfl⟩
  go_wp2_with fail
  refine (instant_any _ 0 hh hl la 0 0 now _ hL).mono ?_
  rintro e w' ⟨rfl, k1, rfl⟩
  have hL2 := hL.alloc (.cells k1 24)
  go_wp2_with fail
  refine (instant_any _ 0 hh hl la 0 0 la _ hL2).mono ?_
  rintro e w' ⟨rfl, k2, rfl⟩
  go_wp2
  go_ret
  exact ⟨rfl, by repeat (first | exact Grown.refl _ | apply Grown.drew | apply Grown.alloc)⟩

theorem least_walk (hh hl la now : Int) (h1 : Word hh) (h2 : Word hl) (w : World) :
    Calls Try.prog 7 #[.int .u64 hh, .int .u64 hl, .int .i64 la, .int .i64 now] w fun e w' => e = .returned (.bool true) ∧ Grown w w' := by
  cases hz : isz hh hl
  · by_cases k : now < la
    · exact least_l hh hl la now hz _ rfl (or_pos h1 h2 hz) k w
    · exact least_n hh hl la now hz _ rfl (or_pos h1 h2 hz) (by omega) w
  · exact least_z hh hl la now hz (or_isz h1 h2 hz) w
end Go.Proofs.Qxb6608657a
