/-
  CONTRACTS of the Ledger functions: ZZnewLedger (15), IsZero (18), Instant (16).
-/
import Derived.Test.Qxb6608657aSums
namespace Go.Proofs.Qxb6608657a
open Go.RowKit

theorem Grown_trans {a b c : World} (h : Grown a b) (k : Grown b c) : Grown a c :=
  ⟨World.keptBut_trans h.1 k.1, fun x => (k.2.1 x).trans (h.2.1 x), Nat.le_trans h.2.2 k.2.2⟩

/-- The Ledger at block b, as far as the laws read it. -/
def Led (b : Nat) (c hh hl la th tl : Int) (w : World) : Prop :=
  b < w.heap.size ∧ w.cell? ⟨b, 2, none⟩ = some (.int .u64 c) ∧ w.cell? ⟨b, 18, none⟩ = some (.int .u64 hh) ∧ w.cell? ⟨b, 19, none⟩ = some (.int .u64 hl) ∧
    w.cell? ⟨b, 21, none⟩ = some (.int .i64 la) ∧ w.cell? ⟨b, 22, none⟩ = some (.int .u64 th) ∧ w.cell? ⟨b, 23, none⟩ = some (.int .u64 tl)

theorem Led.alloc {b : Nat} {c hh hl la th tl : Int} {w : World} (h : Led b c hh hl la th tl w) (o : Obj) : Led b c hh hl la th tl (w.alloc o) := by
  obtain ⟨h0, h1, h2, h3, h4, h5, h6⟩ := h
  refine ⟨by simp; omega, ?_, ?_, ?_, ?_, ?_, ?_⟩ <;> (rw [World.cell?_alloc_past _ _ _ h0]; assumption)

theorem newLedger_any (c hh hl la th tl : Int) (w : World) :
    Calls Try.prog 15 #[.int .u64 c, .int .u64 hh, .int .u64 hl, .int .i64 la, .int .u64 th, .int .u64 tl] w fun e w' =>
      e = .returned (.pointer (some ⟨w.heap.size, 0, none⟩)) ∧ Led w.heap.size c hh hl la th tl w' ∧ ∃ C : Array Value, w' = w.alloc (.cells C 62) := by
  go_enter Try.func15, Try.ntmps15
  go_wp2
  go_ret
  refine ⟨rfl, ?_, _, rfl⟩
  refine ⟨by simp, ?_, ?_, ?_, ?_, ?_, ?_⟩ <;> simp

/-- What IsZero answers. -/
def isz (hh hl : Int) : Bool := decide (hh = 0 ∧ hl = 0)

theorem isZero_any (hh hl : Int) (w : World) :
    Calls Try.prog 18 #[.agg #[.int .u64 hh, .int .u64 hl]] w fun e w' =>
      e = .returned (.bool (isz hh hl)) ∧ ∃ c1 : Array Value, w' = w.alloc (.cells c1 24) := by
  go_enter Try.func18, Try.ntmps18
  go_wp2
  all_goals (go_ret; exact ⟨ret_bool (by simp [isz, *]), _, rfl⟩)

/-- What Instant answers. -/
def inst (hh hl la now : Int) : Int := if isz hh hl = true then now else if now < la then la else now

theorem inst_z {hh hl la now : Int} (h : isz hh hl = true) : inst hh hl la now = now := by unfold inst; rw [if_pos h]
theorem inst_l {hh hl la now : Int} (h : isz hh hl = false) (k : now < la) : inst hh hl la now = la := by
  unfold inst; rw [if_neg (by rw [h]; decide), if_pos k]
theorem inst_n {hh hl la now : Int} (h : isz hh hl = false) (k : la ≤ now) : inst hh hl la now = now := by
  unfold inst; rw [if_neg (by rw [h]; decide), if_neg (by omega)]

set_option maxHeartbeats 400000 in
theorem instant_any (b : Nat) (c hh hl la th tl now : Int) (w : World) (hL : Led b c hh hl la th tl w) :
    Calls Try.prog 16 #[.pointer (some ⟨b, 0, none⟩), .int .i64 now] w fun e w' =>
      e = .returned (.int .i64 (inst hh hl la now)) ∧ ∃ c1 : Array Value, w' = w.alloc (.cells c1 24) := by
  obtain ⟨h0, h1, h2, h3, h4, h5, h6⟩ := hL
  cases hz : isz hh hl
  · by_cases k : now < la
    · go_enter Try.func16, Try.ntmps16
      go_wp2_with (go_at_call 18; refine (isZero_any _ _ _).mono ?_; rintro e w' ⟨rfl, k1, rfl⟩)
      go_ret
      exact ⟨ret_int (inst_l hz k).symm, _, rfl⟩
    · go_enter Try.func16, Try.ntmps16
      go_wp2_with (go_at_call 18; refine (isZero_any _ _ _).mono ?_; rintro e w' ⟨rfl, k1, rfl⟩)
      go_ret
      exact ⟨ret_int (inst_n hz k).symm, _, rfl⟩
  · go_enter Try.func16, Try.ntmps16
    go_wp2_with (go_at_call 18; refine (isZero_any _ _ _).mono ?_; rintro e w' ⟨rfl, k1, rfl⟩)
    go_ret
    exact ⟨ret_int (inst_z hz).symm, _, rfl⟩

end Go.Proofs.Qxb6608657a
