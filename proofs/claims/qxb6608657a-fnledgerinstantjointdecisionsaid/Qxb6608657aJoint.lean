/-
  THE WALK of FnLedgerInstantJointDecision (8): one theorem for each way through.
-/
import Derived.Test.Qxb6608657aLedg
import Derived.Test.Qxb6608657aLeast
namespace Go.Proofs.Qxb6608657a
open Go.RowKit
set_option linter.unusedVariables false

set_option maxHeartbeats 400000 in
theorem joint_zz (hh hl la gh gl lb now : Int) (hz : isz hh hl = true) (ho : bits .or .u64 hh hl = 0) (gz : isz gh gl = true) (go : bits .or .u64 gh gl = 0) (w : World) :
    Calls Try.prog 8 #[.int .u64 hh, .int .u64 hl, .int .i64 la, .int .u64 gh, .int .u64 gl, .int .i64 lb, .int .i64 now] w fun e w' => e = .returned (.bool true) ∧ Grown w w' := by
  have e1 : inst hh hl la now = now := inst_z hz
  have e2 : inst gh gl lb now = now := inst_z gz
  go_enter Try.func8, Try.ntmps8
  go_wp2_with fail
  refine (newLedger_any 0 hh hl la 0 0 _).mono ?_
  rintro e w' ⟨rfl, hL, C, rfl⟩
  go_wp2_with fail
  refine (newLedger_any 0 gh gl lb 0 0 _).mono ?_
  rintro e w' ⟨rfl, hM0, D, rfl⟩
  have hM : Led (w.heap.size + 1) 0 gh gl lb 0 0 ((w.alloc (.cells C 62)).alloc (.cells D 62)) := by simpa using hM0
  clear hM0
  have hL1 := hL.alloc (.cells D 62)
  go_wp2_with fail
  refine (instant_any _ 0 hh hl la 0 0 now _ hL1).mono ?_
  rintro e w' ⟨rfl, k1, rfl⟩
  have hM1 := hM.alloc (.cells k1 24)
  have hL2 := hL1.alloc (.cells k1 24)
  clear hL hM hL1
  go_wp2_with fail
  refine (instant_any _ 0 gh gl lb 0 0 now _ hM1).mono ?_
  rintro e w' ⟨rfl, k2, rfl⟩
  have hL3 := hL2.alloc (.cells k2 24)
  have hM2 := hM1.alloc (.cells k2 24)
  clear hL2 hM1
  go_wp2_with fail
  refine (instant_any _ 0 hh hl la 0 0 now _ hL3).mono ?_
  rintro e w' ⟨rfl, k3, rfl⟩
  have hM3 := hM2.alloc (.cells k3 24)
  clear hL3 hM2
  go_wp2_with fail
  refine (instant_any _ 0 gh gl lb 0 0 now _ hM3).mono ?_
  rintro e w' ⟨rfl, k4, rfl⟩
  clear hM3
  go_wp2
  go_ret
  exact ⟨rfl, by repeat (first | exact Grown.refl _ | apply Grown.drew | apply Grown.alloc)⟩

set_option maxHeartbeats 400000 in
theorem joint_zn (hh hl la gh gl lb now : Int) (hz : isz hh hl = true) (ho : bits .or .u64 hh hl = 0) (gz : isz gh gl = false) (q : Int) (go : bits .or .u64 gh gl = q) (go' : 0 < q) (j : lb ≤ now) (w : World) :
    Calls Try.prog 8 #[.int .u64 hh, .int .u64 hl, .int .i64 la, .int .u64 gh, .int .u64 gl, .int .i64 lb, .int .i64 now] w fun e w' => e = .returned (.bool true) ∧ Grown w w' := by
  have e1 : inst hh hl la now = now := inst_z hz
  have e2 : inst gh gl lb now = now := inst_n gz j
  go_enter Try.func8, Try.ntmps8
  go_wp2_with fail
  refine (newLedger_any 0 hh hl la 0 0 _).mono ?_
  rintro e w' ⟨rfl, hL, C, rfl⟩
  go_wp2_with fail
  refine (newLedger_any 0 gh gl lb 0 0 _).mono ?_
  rintro e w' ⟨rfl, hM0, D, rfl⟩
  have hM : Led (w.heap.size + 1) 0 gh gl lb 0 0 ((w.alloc (.cells C 62)).alloc (.cells D 62)) := by simpa using hM0
  clear hM0
  have hL1 := hL.alloc (.cells D 62)
  go_wp2_with fail
  refine (instant_any _ 0 hh hl la 0 0 now _ hL1).mono ?_
  rintro e w' ⟨rfl, k1, rfl⟩
  have hM1 := hM.alloc (.cells k1 24)
  have hL2 := hL1.alloc (.cells k1 24)
  clear hL hM hL1
  go_wp2_with fail
  refine (instant_any _ 0 gh gl lb 0 0 now _ hM1).mono ?_
  rintro e w' ⟨rfl, k2, rfl⟩
  have hL3 := hL2.alloc (.cells k2 24)
  have hM2 := hM1.alloc (.cells k2 24)
  clear hL2 hM1
  go_wp2_with fail
  refine (instant_any _ 0 hh hl la 0 0 now _ hL3).mono ?_
  rintro e w' ⟨rfl, k3, rfl⟩
  have hM3 := hM2.alloc (.cells k3 24)
  clear hL3 hM2
  go_wp2_with fail
  refine (instant_any _ 0 gh gl lb 0 0 now _ hM3).mono ?_
  rintro e w' ⟨rfl, k4, rfl⟩
  clear hM3
  go_wp2
  go_ret
  exact ⟨rfl, by repeat (first | exact Grown.refl _ | apply Grown.drew | apply Grown.alloc)⟩

set_option maxHeartbeats 400000 in
theorem joint_zl (hh hl la gh gl lb now : Int) (hz : isz hh hl = true) (ho : bits .or .u64 hh hl = 0) (gz : isz gh gl = false) (q : Int) (go : bits .or .u64 gh gl = q) (go' : 0 < q) (j : now < lb) (w : World) :
    Calls Try.prog 8 #[.int .u64 hh, .int .u64 hl, .int .i64 la, .int .u64 gh, .int .u64 gl, .int .i64 lb, .int .i64 now] w fun e w' => e = .returned (.bool true) ∧ Grown w w' := by
  have e1 : inst hh hl la now = now := inst_z hz
  have e2 : inst gh gl lb now = lb := inst_l gz j
  have e3 : inst hh hl la lb = lb := inst_z hz
  have e4 : inst gh gl lb lb = lb := inst_n gz (by omega)
  go_enter Try.func8, Try.ntmps8
  go_wp2_with fail
  refine (newLedger_any 0 hh hl la 0 0 _).mono ?_
  rintro e w' ⟨rfl, hL, C, rfl⟩
  go_wp2_with fail
  refine (newLedger_any 0 gh gl lb 0 0 _).mono ?_
  rintro e w' ⟨rfl, hM0, D, rfl⟩
  have hM : Led (w.heap.size + 1) 0 gh gl lb 0 0 ((w.alloc (.cells C 62)).alloc (.cells D 62)) := by simpa using hM0
  clear hM0
  have hL1 := hL.alloc (.cells D 62)
  go_wp2_with fail
  refine (instant_any _ 0 hh hl la 0 0 now _ hL1).mono ?_
  rintro e w' ⟨rfl, k1, rfl⟩
  have hM1 := hM.alloc (.cells k1 24)
  have hL2 := hL1.alloc (.cells k1 24)
  clear hL hM hL1
  go_wp2_with fail
  refine (instant_any _ 0 gh gl lb 0 0 now _ hM1).mono ?_
  rintro e w' ⟨rfl, k2, rfl⟩
  have hL3 := hL2.alloc (.cells k2 24)
  have hM2 := hM1.alloc (.cells k2 24)
  clear hL2 hM1
  go_wp2_with fail
  refine (instant_any _ 0 hh hl la 0 0 lb _ hL3).mono ?_
  rintro e w' ⟨rfl, k3, rfl⟩
  have hM3 := hM2.alloc (.cells k3 24)
  clear hL3 hM2
  go_wp2_with fail
  refine (instant_any _ 0 gh gl lb 0 0 lb _ hM3).mono ?_
  rintro e w' ⟨rfl, k4, rfl⟩
  clear hM3
  go_wp2
  go_ret
  exact ⟨rfl, by repeat (first | exact Grown.refl _ | apply Grown.drew | apply Grown.alloc)⟩

set_option maxHeartbeats 400000 in
theorem joint_nz (hh hl la gh gl lb now : Int) (hz : isz hh hl = false) (o : Int) (ho : bits .or .u64 hh hl = o) (ho' : 0 < o) (k : la ≤ now) (gz : isz gh gl = true) (go : bits .or .u64 gh gl = 0) (w : World) :
    Calls Try.prog 8 #[.int .u64 hh, .int .u64 hl, .int .i64 la, .int .u64 gh, .int .u64 gl, .int .i64 lb, .int .i64 now] w fun e w' => e = .returned (.bool true) ∧ Grown w w' := by
  have e1 : inst hh hl la now = now := inst_n hz k
  have e2 : inst gh gl lb now = now := inst_z gz
  go_enter Try.func8, Try.ntmps8
  go_wp2_with fail
  refine (newLedger_any 0 hh hl la 0 0 _).mono ?_
  rintro e w' ⟨rfl, hL, C, rfl⟩
  go_wp2_with fail
  refine (newLedger_any 0 gh gl lb 0 0 _).mono ?_
  rintro e w' ⟨rfl, hM0, D, rfl⟩
  have hM : Led (w.heap.size + 1) 0 gh gl lb 0 0 ((w.alloc (.cells C 62)).alloc (.cells D 62)) := by simpa using hM0
  clear hM0
  have hL1 := hL.alloc (.cells D 62)
  go_wp2_with fail
  refine (instant_any _ 0 hh hl la 0 0 now _ hL1).mono ?_
  rintro e w' ⟨rfl, k1, rfl⟩
  have hM1 := hM.alloc (.cells k1 24)
  have hL2 := hL1.alloc (.cells k1 24)
  clear hL hM hL1
  go_wp2_with fail
  refine (instant_any _ 0 gh gl lb 0 0 now _ hM1).mono ?_
  rintro e w' ⟨rfl, k2, rfl⟩
  have hL3 := hL2.alloc (.cells k2 24)
  have hM2 := hM1.alloc (.cells k2 24)
  clear hL2 hM1
  go_wp2_with fail
  refine (instant_any _ 0 hh hl la 0 0 now _ hL3).mono ?_
  rintro e w' ⟨rfl, k3, rfl⟩
  have hM3 := hM2.alloc (.cells k3 24)
  clear hL3 hM2
  go_wp2_with fail
  refine (instant_any _ 0 gh gl lb 0 0 now _ hM3).mono ?_
  rintro e w' ⟨rfl, k4, rfl⟩
  clear hM3
  go_wp2
  go_ret
  exact ⟨rfl, by repeat (first | exact Grown.refl _ | apply Grown.drew | apply Grown.alloc)⟩

set_option maxHeartbeats 400000 in
theorem joint_nn (hh hl la gh gl lb now : Int) (hz : isz hh hl = false) (o : Int) (ho : bits .or .u64 hh hl = o) (ho' : 0 < o) (k : la ≤ now) (gz : isz gh gl = false) (q : Int) (go : bits .or .u64 gh gl = q) (go' : 0 < q) (j : lb ≤ now) (w : World) :
    Calls Try.prog 8 #[.int .u64 hh, .int .u64 hl, .int .i64 la, .int .u64 gh, .int .u64 gl, .int .i64 lb, .int .i64 now] w fun e w' => e = .returned (.bool true) ∧ Grown w w' := by
  have e1 : inst hh hl la now = now := inst_n hz k
  have e2 : inst gh gl lb now = now := inst_n gz j
  go_enter Try.func8, Try.ntmps8
  go_wp2_with fail
  refine (newLedger_any 0 hh hl la 0 0 _).mono ?_
  rintro e w' ⟨rfl, hL, C, rfl⟩
  go_wp2_with fail
  refine (newLedger_any 0 gh gl lb 0 0 _).mono ?_
  rintro e w' ⟨rfl, hM0, D, rfl⟩
  have hM : Led (w.heap.size + 1) 0 gh gl lb 0 0 ((w.alloc (.cells C 62)).alloc (.cells D 62)) := by simpa using hM0
  clear hM0
  have hL1 := hL.alloc (.cells D 62)
  go_wp2_with fail
  refine (instant_any _ 0 hh hl la 0 0 now _ hL1).mono ?_
  rintro e w' ⟨rfl, k1, rfl⟩
  have hM1 := hM.alloc (.cells k1 24)
  have hL2 := hL1.alloc (.cells k1 24)
  clear hL hM hL1
  go_wp2_with fail
  refine (instant_any _ 0 gh gl lb 0 0 now _ hM1).mono ?_
  rintro e w' ⟨rfl, k2, rfl⟩
  have hL3 := hL2.alloc (.cells k2 24)
  have hM2 := hM1.alloc (.cells k2 24)
  clear hL2 hM1
  go_wp2_with fail
  refine (instant_any _ 0 hh hl la 0 0 now _ hL3).mono ?_
  rintro e w' ⟨rfl, k3, rfl⟩
  have hM3 := hM2.alloc (.cells k3 24)
  clear hL3 hM2
  go_wp2_with fail
  refine (instant_any _ 0 gh gl lb 0 0 now _ hM3).mono ?_
  rintro e w' ⟨rfl, k4, rfl⟩
  clear hM3
  go_wp2
  go_ret
  exact ⟨rfl, by repeat (first | exact Grown.refl _ | apply Grown.drew | apply Grown.alloc)⟩

set_option maxHeartbeats 400000 in
theorem joint_nl (hh hl la gh gl lb now : Int) (hz : isz hh hl = false) (o : Int) (ho : bits .or .u64 hh hl = o) (ho' : 0 < o) (k : la ≤ now) (gz : isz gh gl = false) (q : Int) (go : bits .or .u64 gh gl = q) (go' : 0 < q) (j : now < lb) (w : World) :
    Calls Try.prog 8 #[.int .u64 hh, .int .u64 hl, .int .i64 la, .int .u64 gh, .int .u64 gl, .int .i64 lb, .int .i64 now] w fun e w' => e = .returned (.bool true) ∧ Grown w w' := by
  have e1 : inst hh hl la now = now := inst_n hz k
  have e2 : inst gh gl lb now = lb := inst_l gz j
  have e3 : inst hh hl la lb = lb := inst_n hz (by omega)
  have e4 : inst gh gl lb lb = lb := inst_n gz (by omega)
  go_enter Try.func8, Try.ntmps8
  go_wp2_with fail
  refine (newLedger_any 0 hh hl la 0 0 _).mono ?_
  rintro e w' ⟨rfl, hL, C, rfl⟩
  go_wp2_with fail
  refine (newLedger_any 0 gh gl lb 0 0 _).mono ?_
  rintro e w' ⟨rfl, hM0, D, rfl⟩
  have hM : Led (w.heap.size + 1) 0 gh gl lb 0 0 ((w.alloc (.cells C 62)).alloc (.cells D 62)) := by simpa using hM0
  clear hM0
  have hL1 := hL.alloc (.cells D 62)
  go_wp2_with fail
  refine (instant_any _ 0 hh hl la 0 0 now _ hL1).mono ?_
  rintro e w' ⟨rfl, k1, rfl⟩
  have hM1 := hM.alloc (.cells k1 24)
  have hL2 := hL1.alloc (.cells k1 24)
  clear hL hM hL1
  go_wp2_with fail
  refine (instant_any _ 0 gh gl lb 0 0 now _ hM1).mono ?_
  rintro e w' ⟨rfl, k2, rfl⟩
  have hL3 := hL2.alloc (.cells k2 24)
  have hM2 := hM1.alloc (.cells k2 24)
  clear hL2 hM1
  go_wp2_with fail
  refine (instant_any _ 0 hh hl la 0 0 lb _ hL3).mono ?_
  rintro e w' ⟨rfl, k3, rfl⟩
  have hM3 := hM2.alloc (.cells k3 24)
  clear hL3 hM2
  go_wp2_with fail
  refine (instant_any _ 0 gh gl lb 0 0 lb _ hM3).mono ?_
  rintro e w' ⟨rfl, k4, rfl⟩
  clear hM3
  go_wp2
  go_ret
  exact ⟨rfl, by repeat (first | exact Grown.refl _ | apply Grown.drew | apply Grown.alloc)⟩

set_option maxHeartbeats 400000 in
theorem joint_lz (hh hl la gh gl lb now : Int) (hz : isz hh hl = false) (o : Int) (ho : bits .or .u64 hh hl = o) (ho' : 0 < o) (k : now < la) (gz : isz gh gl = true) (go : bits .or .u64 gh gl = 0) (w : World) :
    Calls Try.prog 8 #[.int .u64 hh, .int .u64 hl, .int .i64 la, .int .u64 gh, .int .u64 gl, .int .i64 lb, .int .i64 now] w fun e w' => e = .returned (.bool true) ∧ Grown w w' := by
  have e1 : inst hh hl la now = la := inst_l hz k
  have e2 : inst gh gl lb now = now := inst_z gz
  have e3 : inst hh hl la la = la := inst_n hz (by omega)
  have e4 : inst gh gl lb la = la := inst_z gz
  go_enter Try.func8, Try.ntmps8
  go_wp2_with fail
  refine (newLedger_any 0 hh hl la 0 0 _).mono ?_
  rintro e w' ⟨rfl, hL, C, rfl⟩
  go_wp2_with fail
  refine (newLedger_any 0 gh gl lb 0 0 _).mono ?_
  rintro e w' ⟨rfl, hM0, D, rfl⟩
  have hM : Led (w.heap.size + 1) 0 gh gl lb 0 0 ((w.alloc (.cells C 62)).alloc (.cells D 62)) := by simpa using hM0
  clear hM0
  have hL1 := hL.alloc (.cells D 62)
  go_wp2_with fail
  refine (instant_any _ 0 hh hl la 0 0 now _ hL1).mono ?_
  rintro e w' ⟨rfl, k1, rfl⟩
  have hM1 := hM.alloc (.cells k1 24)
  have hL2 := hL1.alloc (.cells k1 24)
  clear hL hM hL1
  go_wp2_with fail
  refine (instant_any _ 0 gh gl lb 0 0 now _ hM1).mono ?_
  rintro e w' ⟨rfl, k2, rfl⟩
  have hL3 := hL2.alloc (.cells k2 24)
  have hM2 := hM1.alloc (.cells k2 24)
  clear hL2 hM1
  go_wp2_with fail
  refine (instant_any _ 0 hh hl la 0 0 la _ hL3).mono ?_
  rintro e w' ⟨rfl, k3, rfl⟩
  have hM3 := hM2.alloc (.cells k3 24)
  clear hL3 hM2
  go_wp2_with fail
  refine (instant_any _ 0 gh gl lb 0 0 la _ hM3).mono ?_
  rintro e w' ⟨rfl, k4, rfl⟩
  clear hM3
  go_wp2
  go_ret
  exact ⟨rfl, by repeat (first | exact Grown.refl _ | apply Grown.drew | apply Grown.alloc)⟩

set_option maxHeartbeats 400000 in
theorem joint_ln (hh hl la gh gl lb now : Int) (hz : isz hh hl = false) (o : Int) (ho : bits .or .u64 hh hl = o) (ho' : 0 < o) (k : now < la) (gz : isz gh gl = false) (q : Int) (go : bits .or .u64 gh gl = q) (go' : 0 < q) (j : lb ≤ now) (w : World) :
    Calls Try.prog 8 #[.int .u64 hh, .int .u64 hl, .int .i64 la, .int .u64 gh, .int .u64 gl, .int .i64 lb, .int .i64 now] w fun e w' => e = .returned (.bool true) ∧ Grown w w' := by
  have e1 : inst hh hl la now = la := inst_l hz k
  have e2 : inst gh gl lb now = now := inst_n gz j
  have e3 : inst hh hl la la = la := inst_n hz (by omega)
  have e4 : inst gh gl lb la = la := inst_n gz (by omega)
  go_enter Try.func8, Try.ntmps8
  go_wp2_with fail
  refine (newLedger_any 0 hh hl la 0 0 _).mono ?_
  rintro e w' ⟨rfl, hL, C, rfl⟩
  go_wp2_with fail
  refine (newLedger_any 0 gh gl lb 0 0 _).mono ?_
  rintro e w' ⟨rfl, hM0, D, rfl⟩
  have hM : Led (w.heap.size + 1) 0 gh gl lb 0 0 ((w.alloc (.cells C 62)).alloc (.cells D 62)) := by simpa using hM0
  clear hM0
  have hL1 := hL.alloc (.cells D 62)
  go_wp2_with fail
  refine (instant_any _ 0 hh hl la 0 0 now _ hL1).mono ?_
  rintro e w' ⟨rfl, k1, rfl⟩
  have hM1 := hM.alloc (.cells k1 24)
  have hL2 := hL1.alloc (.cells k1 24)
  clear hL hM hL1
  go_wp2_with fail
  refine (instant_any _ 0 gh gl lb 0 0 now _ hM1).mono ?_
  rintro e w' ⟨rfl, k2, rfl⟩
  have hL3 := hL2.alloc (.cells k2 24)
  have hM2 := hM1.alloc (.cells k2 24)
  clear hL2 hM1
  go_wp2_with fail
  refine (instant_any _ 0 hh hl la 0 0 la _ hL3).mono ?_
  rintro e w' ⟨rfl, k3, rfl⟩
  have hM3 := hM2.alloc (.cells k3 24)
  clear hL3 hM2
  go_wp2_with fail
  refine (instant_any _ 0 gh gl lb 0 0 la _ hM3).mono ?_
  rintro e w' ⟨rfl, k4, rfl⟩
  clear hM3
  go_wp2
  go_ret
  exact ⟨rfl, by repeat (first | exact Grown.refl _ | apply Grown.drew | apply Grown.alloc)⟩

set_option maxHeartbeats 400000 in
theorem joint_lla (hh hl la gh gl lb now : Int) (hz : isz hh hl = false) (o : Int) (ho : bits .or .u64 hh hl = o) (ho' : 0 < o) (k : now < la) (gz : isz gh gl = false) (q : Int) (go : bits .or .u64 gh gl = q) (go' : 0 < q) (j : now < lb) (m : la < lb) (w : World) :
    Calls Try.prog 8 #[.int .u64 hh, .int .u64 hl, .int .i64 la, .int .u64 gh, .int .u64 gl, .int .i64 lb, .int .i64 now] w fun e w' => e = .returned (.bool true) ∧ Grown w w' := by
  have e1 : inst hh hl la now = la := inst_l hz k
  have e2 : inst gh gl lb now = lb := inst_l gz j
  have e3 : inst hh hl la lb = lb := inst_n hz (by omega)
  have e4 : inst gh gl lb lb = lb := inst_n gz (by omega)
  go_enter Try.func8, Try.ntmps8
  go_wp2_with fail
  refine (newLedger_any 0 hh hl la 0 0 _).mono ?_
  rintro e w' ⟨rfl, hL, C, rfl⟩
  go_wp2_with fail
  refine (newLedger_any 0 gh gl lb 0 0 _).mono ?_
  rintro e w' ⟨rfl, hM0, D, rfl⟩
  have hM : Led (w.heap.size + 1) 0 gh gl lb 0 0 ((w.alloc (.cells C 62)).alloc (.cells D 62)) := by simpa using hM0
  clear hM0
  have hL1 := hL.alloc (.cells D 62)
  go_wp2_with fail
  refine (instant_any _ 0 hh hl la 0 0 now _ hL1).mono ?_
  rintro e w' ⟨rfl, k1, rfl⟩
  have hM1 := hM.alloc (.cells k1 24)
  have hL2 := hL1.alloc (.cells k1 24)
  clear hL hM hL1
  go_wp2_with fail
  refine (instant_any _ 0 gh gl lb 0 0 now _ hM1).mono ?_
  rintro e w' ⟨rfl, k2, rfl⟩
  have hL3 := hL2.alloc (.cells k2 24)
  have hM2 := hM1.alloc (.cells k2 24)
  clear hL2 hM1
  go_wp2_with fail
  refine (instant_any _ 0 hh hl la 0 0 lb _ hL3).mono ?_
  rintro e w' ⟨rfl, k3, rfl⟩
  have hM3 := hM2.alloc (.cells k3 24)
  clear hL3 hM2
  go_wp2_with fail
  refine (instant_any _ 0 gh gl lb 0 0 lb _ hM3).mono ?_
  rintro e w' ⟨rfl, k4, rfl⟩
  clear hM3
  go_wp2
  go_ret
  exact ⟨rfl, by repeat (first | exact Grown.refl _ | apply Grown.drew | apply Grown.alloc)⟩

set_option maxHeartbeats 400000 in
theorem joint_llb (hh hl la gh gl lb now : Int) (hz : isz hh hl = false) (o : Int) (ho : bits .or .u64 hh hl = o) (ho' : 0 < o) (k : now < la) (gz : isz gh gl = false) (q : Int) (go : bits .or .u64 gh gl = q) (go' : 0 < q) (j : now < lb) (m : lb ≤ la) (w : World) :
    Calls Try.prog 8 #[.int .u64 hh, .int .u64 hl, .int .i64 la, .int .u64 gh, .int .u64 gl, .int .i64 lb, .int .i64 now] w fun e w' => e = .returned (.bool true) ∧ Grown w w' := by
  have e1 : inst hh hl la now = la := inst_l hz k
  have e2 : inst gh gl lb now = lb := inst_l gz j
  have e3 : inst hh hl la la = la := inst_n hz (by omega)
  have e4 : inst gh gl lb la = la := inst_n gz (by omega)
  go_enter Try.func8, Try.ntmps8
  go_wp2_with fail
  refine (newLedger_any 0 hh hl la 0 0 _).mono ?_
  rintro e w' ⟨rfl, hL, C, rfl⟩
  go_wp2_with fail
  refine (newLedger_any 0 gh gl lb 0 0 _).mono ?_
  rintro e w' ⟨rfl, hM0, D, rfl⟩
  have hM : Led (w.heap.size + 1) 0 gh gl lb 0 0 ((w.alloc (.cells C 62)).alloc (.cells D 62)) := by simpa using hM0
  clear hM0
  have hL1 := hL.alloc (.cells D 62)
  go_wp2_with fail
  refine (instant_any _ 0 hh hl la 0 0 now _ hL1).mono ?_
  rintro e w' ⟨rfl, k1, rfl⟩
  have hM1 := hM.alloc (.cells k1 24)
  have hL2 := hL1.alloc (.cells k1 24)
  clear hL hM hL1
  go_wp2_with fail
  refine (instant_any _ 0 gh gl lb 0 0 now _ hM1).mono ?_
  rintro e w' ⟨rfl, k2, rfl⟩
  have hL3 := hL2.alloc (.cells k2 24)
  have hM2 := hM1.alloc (.cells k2 24)
  clear hL2 hM1
  go_wp2_with fail
  refine (instant_any _ 0 hh hl la 0 0 la _ hL3).mono ?_
  rintro e w' ⟨rfl, k3, rfl⟩
  have hM3 := hM2.alloc (.cells k3 24)
  clear hL3 hM2
  go_wp2_with fail
  refine (instant_any _ 0 gh gl lb 0 0 la _ hM3).mono ?_
  rintro e w' ⟨rfl, k4, rfl⟩
  clear hM3
  go_wp2
  go_ret
  exact ⟨rfl, by repeat (first | exact Grown.refl _ | apply Grown.drew | apply Grown.alloc)⟩

theorem joint_walk (hh hl la gh gl lb now : Int) (h1 : Word hh) (h2 : Word hl) (h3 : Word gh) (h4 : Word gl) (w : World) :
    Calls Try.prog 8 #[.int .u64 hh, .int .u64 hl, .int .i64 la, .int .u64 gh, .int .u64 gl, .int .i64 lb, .int .i64 now] w fun e w' => e = .returned (.bool true) ∧ Grown w w' := by
  cases hz : isz hh hl
  · by_cases k : now < la
    · cases gz : isz gh gl
      · by_cases j : now < lb
        · by_cases m : la < lb
          · exact joint_lla hh hl la gh gl lb now hz _ rfl (or_pos h1 h2 hz) k gz _ rfl (or_pos h3 h4 gz) j m w
          · exact joint_llb hh hl la gh gl lb now hz _ rfl (or_pos h1 h2 hz) k gz _ rfl (or_pos h3 h4 gz) j (by omega) w
        · exact joint_ln hh hl la gh gl lb now hz _ rfl (or_pos h1 h2 hz) k gz _ rfl (or_pos h3 h4 gz) (by omega) w
      · exact joint_lz hh hl la gh gl lb now hz _ rfl (or_pos h1 h2 hz) k gz (or_isz h3 h4 gz) w
    · cases gz : isz gh gl
      · by_cases j : now < lb
        · exact joint_nl hh hl la gh gl lb now hz _ rfl (or_pos h1 h2 hz) (by omega) gz _ rfl (or_pos h3 h4 gz) j w
        · exact joint_nn hh hl la gh gl lb now hz _ rfl (or_pos h1 h2 hz) (by omega) gz _ rfl (or_pos h3 h4 gz) (by omega) w
      · exact joint_nz hh hl la gh gl lb now hz _ rfl (or_pos h1 h2 hz) (by omega) gz (or_isz h3 h4 gz) w
  · cases gz : isz gh gl
    · by_cases j : now < lb
      · exact joint_zl hh hl la gh gl lb now hz (or_isz h1 h2 hz) gz _ rfl (or_pos h3 h4 gz) j w
      · exact joint_zn hh hl la gh gl lb now hz (or_isz h1 h2 hz) gz _ rfl (or_pos h3 h4 gz) (by omega) w
    · exact joint_zz hh hl la gh gl lb now hz (or_isz h1 h2 hz) gz (or_isz h3 h4 gz) w
end Go.Proofs.Qxb6608657a
