/-
  CONTRACTS of the functions over Sum: ZZnewSum (10), Cmp (11), AtMost (13), zzEngB1Sub128 (14), zzEngB1Sign128 (12).
-/
import Derived.Test.Qxb6608657aRows
import Derived.Test.Qxb6608657aPlain
import Derived.WalkKit
import Derived.WalkSpells
import Derived.Laws.Pointers
import Derived.RowKit3
namespace Go.Proofs.Qxb6608657a
open Go.RowKit

/-- engine.ZZnewSum. -/
theorem newSum_any (h l : Int) (w : World) :
    Calls Try.prog 10 #[.int .u64 h, .int .u64 l] w fun e w' =>
      e = .returned (.agg #[.int .u64 h, .int .u64 l]) ∧ ∃ c1 : Array Value, w' = w.alloc (.cells c1 24) := by
  go_enter Try.func10, Try.ntmps10
  go_wp2
  simp [bodyPost, results, Try.results10, go_sem]
  exact ⟨_, rfl⟩

/-- What Cmp answers. -/
def cmpI (sh sl th tl : Int) : Int := if sh < th ∨ (sh = th ∧ sl < tl) then -1 else if sh = th ∧ sl = tl then 0 else 1

theorem ret_int {k : IntKind} {a b : Int} (h : a = b) : Ending.returned (.int k a) = .returned (.int k b) := by rw [h]

theorem cmpI_lt {sh sl th tl : Int} (h : sh < th ∨ (sh = th ∧ sl < tl)) : cmpI sh sl th tl = -1 := by unfold cmpI; rw [if_pos h]
theorem cmpI_eq (sh sl : Int) : cmpI sh sl sh sl = 0 := by unfold cmpI; rw [if_neg (by omega), if_pos ⟨rfl, rfl⟩]
theorem cmpI_gt {sh sl th tl : Int} (h : th < sh ∨ (sh = th ∧ tl < sl)) : cmpI sh sl th tl = 1 := by unfold cmpI; rw [if_neg (by omega), if_neg (by omega)]

set_option maxHeartbeats 400000 in
/-- (Sum).Cmp. -/
theorem cmp_any (sh sl th tl : Int) (w : World) :
    Calls Try.prog 11 #[.agg #[.int .u64 sh, .int .u64 sl], .agg #[.int .u64 th, .int .u64 tl]] w fun e w' =>
      e = .returned (.int .i64 (cmpI sh sl th tl)) ∧ ∃ c1 c2 : Array Value, w' = (w.alloc (.cells c1 24)).alloc (.cells c2 24) := by
  by_cases g1 : sh = th
  · subst g1
    by_cases g2 : sl < tl
    · go_enter Try.func11, Try.ntmps11
      go_wp2
      go_ret
      exact ⟨ret_int (cmpI_lt (by omega)).symm, _, _, rfl⟩
    · by_cases g3 : tl < sl
      · go_enter Try.func11, Try.ntmps11
        go_wp2
        go_ret
        exact ⟨ret_int (cmpI_gt (by omega)).symm, _, _, rfl⟩
      · have g4 : sl = tl := by omega
        subst g4
        go_enter Try.func11, Try.ntmps11
        go_wp2
        go_ret
        exact ⟨ret_int (cmpI_eq _ _).symm, _, _, rfl⟩
  · by_cases g2 : sh < th
    · go_enter Try.func11, Try.ntmps11
      go_wp2
      go_ret
      exact ⟨ret_int (cmpI_lt (by omega)).symm, _, _, rfl⟩
    · go_enter Try.func11, Try.ntmps11
      go_wp2
      go_ret
      exact ⟨ret_int (cmpI_gt (by omega)).symm, _, _, rfl⟩

/-- What AtMost answers. -/
def atm (sh sl n : Int) : Bool := decide (sh = 0 ∧ sl ≤ n)
theorem ret_bool {a b : Bool} (h : a = b) : Ending.returned (.bool a) = .returned (.bool b) := by rw [h]

/-- (Sum).AtMost. -/
theorem atMost_any (sh sl n : Int) (w : World) :
    Calls Try.prog 13 #[.agg #[.int .u64 sh, .int .u64 sl], .int .u64 n] w fun e w' =>
      e = .returned (.bool (atm sh sl n)) ∧ ∃ c1 : Array Value, w' = w.alloc (.cells c1 24) := by
  by_cases g1 : sh = 0
  · subst g1
    by_cases g2 : sl ≤ n
    · go_enter Try.func13, Try.ntmps13
      go_wp2
      go_ret
      exact ⟨ret_bool (by simp [atm, g2]), _, rfl⟩
    · go_enter Try.func13, Try.ntmps13
      go_wp2
      go_ret
      exact ⟨ret_bool (by simp [atm, g2]), _, rfl⟩
  · go_enter Try.func13, Try.ntmps13
    go_wp2
    go_ret
    exact ⟨ret_bool (by simp [atm, g1]), _, rfl⟩

theorem ret_three {a b c a' b' c' : Int} (h1 : a = a') (h2 : b = b') (h3 : c = c') :
    Ending.returned (.tuple #[.int .u64 a, .int .u64 b, .int .u64 c]) = .returned (.tuple #[.int .u64 a', .int .u64 b', .int .u64 c']) := by rw [h1, h2, h3]

set_option maxHeartbeats 400000 in
/-- zzEngB1Sub128. -/
theorem sub128_any (xh xl yh yl : Int) (h1 : Word xh) (h2 : Word xl) (h3 : Word yh) (h4 : Word yl) (w : World) :
    Calls Try.prog 14 #[.int .u64 xh, .int .u64 xl, .int .u64 yh, .int .u64 yl] w fun e w' =>
      e = .returned (.tuple #[.int .u64 ((xh - yh - bor xl yl) % 18446744073709551616), .int .u64 ((xl - yl) % 18446744073709551616), .int .u64 (brw xh xl yh yl)]) ∧ w' = w := by
  go_enter Try.func14, Try.ntmps14
  go_wp2
  go_ret3
  exact ⟨ret_three (raw_dhi xh xl yh yl h2 h4) (raw_dlo xl yl) (raw_b2 xh xl yh yl h1 h2 h3 h4), rfl⟩

end Go.Proofs.Qxb6608657a
