/-
  THE WALK of FnLedgerLoweredThreshold (9): one theorem for each way through.
-/
import Derived.Test.Qxb6608657aLow
import Derived.Test.Qxb6608657aSign
namespace Go.Proofs.Qxb6608657a
open Go.RowKit
set_option linter.unusedVariables false

theorem low_iff (c hh hl th tl : Int) : low c hh hl th tl = true ↔ (¬ (hh = 0 ∧ hl ≤ c) ∧ ¬ (th = 0 ∧ tl ≤ c)) := by
  unfold low atm
  rw [Bool.and_eq_true, Bool.not_eq_true', Bool.not_eq_true', decide_eq_false_iff_not, decide_eq_false_iff_not]
theorem low_not (c hh hl th tl : Int) : low c hh hl th tl = false ↔ ((hh = 0 ∧ hl ≤ c) ∨ (th = 0 ∧ tl ≤ c)) := by
  rw [← Bool.not_eq_true, low_iff]
  omega
theorem beq_f {a b : Int} (h : a ≠ b) : (a == b) = false := by simpa using h

theorem thr_top (hh hl th tl : Int) (w : World) :
    Calls Try.prog 9 #[.int .u64 18446744073709551615, .int .u64 hh, .int .u64 hl, .int .u64 th, .int .u64 tl] w fun e w' => e = .returned (.bool true) ∧ Grown w w' := by
  go_enter Try.func9, Try.ntmps9
  go_wp2
  go_ret
  exact ⟨rfl, Grown.refl _⟩

set_option maxHeartbeats 1000000 in
theorem thr_0ttz (c hh hl tl : Int) (c0 : 0 ≤ c) (c1 : c < 18446744073709551615) (h0 : Word hh) (h1 : Word hl) (h2 : Word 0) (h3 : Word tl) (e1 : low c hh hl 0 tl = true) (e2 : low (c + 1) hh hl 0 tl = true) (eb : brw hh hl 0 tl = 0) (k : (tl == c + 1) = false) (w : World) :
    Calls Try.prog 9 #[.int .u64 c, .int .u64 hh, .int .u64 hl, .int .u64 0, .int .u64 tl] w fun e w' => e = .returned (.bool true) ∧ Grown w w' := by
  go_enter Try.func9, Try.ntmps9
  go_wp2_with fail
  refine (newLedger_any c hh hl 0 0 tl _).mono ?_
  rintro e w' ⟨rfl, hL, C, rfl⟩
  go_wp2_with fail
  refine (zzlowered_any _ c hh hl 0 0 tl _ hL).mono ?_
  rintro e w1 ⟨rfl, hg⟩
  clear hL
  go_wp2_with fail
  refine (newLedger_any (c + 1) hh hl 0 0 tl _).mono ?_
  rintro e w' ⟨rfl, hL, D, rfl⟩
  go_wp2_with fail
  refine (zzlowered_any _ (c + 1) hh hl 0 0 tl _ hL).mono ?_
  rintro e w2 ⟨rfl, hg2⟩
  clear hL
  go_wp2_with fail
  refine (sub128_any hh hl 0 tl h0 h1 h2 h3 _).mono ?_
  rintro e w' ⟨rfl, rfl⟩
  go_wp2
  go_ret
  exact ⟨rfl, Grown_trans (Grown_trans ((Grown.refl w).alloc C 62) hg) (Grown_trans ((Grown.refl w1).alloc D 62) hg2)⟩

set_option maxHeartbeats 1000000 in
theorem thr_0ttn (c hh hl th tl : Int) (c0 : 0 ≤ c) (c1 : c < 18446744073709551615) (h0 : Word hh) (h1 : Word hl) (h2 : Word th) (h3 : Word tl) (e1 : low c hh hl th tl = true) (e2 : low (c + 1) hh hl th tl = true) (eb : brw hh hl th tl = 0) (k : (th == 0) = false) (w : World) :
    Calls Try.prog 9 #[.int .u64 c, .int .u64 hh, .int .u64 hl, .int .u64 th, .int .u64 tl] w fun e w' => e = .returned (.bool true) ∧ Grown w w' := by
  go_enter Try.func9, Try.ntmps9
  go_wp2_with fail
  refine (newLedger_any c hh hl 0 th tl _).mono ?_
  rintro e w' ⟨rfl, hL, C, rfl⟩
  go_wp2_with fail
  refine (zzlowered_any _ c hh hl 0 th tl _ hL).mono ?_
  rintro e w1 ⟨rfl, hg⟩
  clear hL
  go_wp2_with fail
  refine (newLedger_any (c + 1) hh hl 0 th tl _).mono ?_
  rintro e w' ⟨rfl, hL, D, rfl⟩
  go_wp2_with fail
  refine (zzlowered_any _ (c + 1) hh hl 0 th tl _ hL).mono ?_
  rintro e w2 ⟨rfl, hg2⟩
  clear hL
  go_wp2_with fail
  refine (sub128_any hh hl th tl h0 h1 h2 h3 _).mono ?_
  rintro e w' ⟨rfl, rfl⟩
  go_wp2
  go_ret
  exact ⟨rfl, Grown_trans (Grown_trans ((Grown.refl w).alloc C 62) hg) (Grown_trans ((Grown.refl w1).alloc D 62) hg2)⟩

set_option maxHeartbeats 1000000 in
theorem thr_0tf (c hh hl : Int) (c0 : 0 ≤ c) (c1 : c < 18446744073709551615) (h0 : Word hh) (h1 : Word hl) (h2 : Word 0) (h3 : Word (c + 1)) (e1 : low c hh hl 0 (c + 1) = true) (e2 : low (c + 1) hh hl 0 (c + 1) = false) (eb : brw hh hl 0 (c + 1) = 0)  (w : World) :
    Calls Try.prog 9 #[.int .u64 c, .int .u64 hh, .int .u64 hl, .int .u64 0, .int .u64 (c + 1)] w fun e w' => e = .returned (.bool true) ∧ Grown w w' := by
  go_enter Try.func9, Try.ntmps9
  go_wp2_with fail
  refine (newLedger_any c hh hl 0 0 (c + 1) _).mono ?_
  rintro e w' ⟨rfl, hL, C, rfl⟩
  go_wp2_with fail
  refine (zzlowered_any _ c hh hl 0 0 (c + 1) _ hL).mono ?_
  rintro e w1 ⟨rfl, hg⟩
  clear hL
  go_wp2_with fail
  refine (newLedger_any (c + 1) hh hl 0 0 (c + 1) _).mono ?_
  rintro e w' ⟨rfl, hL, D, rfl⟩
  go_wp2_with fail
  refine (zzlowered_any _ (c + 1) hh hl 0 0 (c + 1) _ hL).mono ?_
  rintro e w2 ⟨rfl, hg2⟩
  clear hL
  go_wp2_with fail
  refine (sub128_any hh hl 0 (c + 1) h0 h1 h2 h3 _).mono ?_
  rintro e w' ⟨rfl, rfl⟩
  go_wp2
  go_ret
  exact ⟨rfl, Grown_trans (Grown_trans ((Grown.refl w).alloc C 62) hg) (Grown_trans ((Grown.refl w1).alloc D 62) hg2)⟩

set_option maxHeartbeats 1000000 in
theorem thr_0ffz (c hh hl tl : Int) (c0 : 0 ≤ c) (c1 : c < 18446744073709551615) (h0 : Word hh) (h1 : Word hl) (h2 : Word 0) (h3 : Word tl) (e1 : low c hh hl 0 tl = false) (e2 : low (c + 1) hh hl 0 tl = false) (eb : brw hh hl 0 tl = 0) (k : (tl == c + 1) = false) (w : World) :
    Calls Try.prog 9 #[.int .u64 c, .int .u64 hh, .int .u64 hl, .int .u64 0, .int .u64 tl] w fun e w' => e = .returned (.bool true) ∧ Grown w w' := by
  go_enter Try.func9, Try.ntmps9
  go_wp2_with fail
  refine (newLedger_any c hh hl 0 0 tl _).mono ?_
  rintro e w' ⟨rfl, hL, C, rfl⟩
  go_wp2_with fail
  refine (zzlowered_any _ c hh hl 0 0 tl _ hL).mono ?_
  rintro e w1 ⟨rfl, hg⟩
  clear hL
  go_wp2_with fail
  refine (newLedger_any (c + 1) hh hl 0 0 tl _).mono ?_
  rintro e w' ⟨rfl, hL, D, rfl⟩
  go_wp2_with fail
  refine (zzlowered_any _ (c + 1) hh hl 0 0 tl _ hL).mono ?_
  rintro e w2 ⟨rfl, hg2⟩
  clear hL
  go_wp2_with fail
  refine (sub128_any hh hl 0 tl h0 h1 h2 h3 _).mono ?_
  rintro e w' ⟨rfl, rfl⟩
  go_wp2
  go_ret
  exact ⟨rfl, Grown_trans (Grown_trans ((Grown.refl w).alloc C 62) hg) (Grown_trans ((Grown.refl w1).alloc D 62) hg2)⟩

set_option maxHeartbeats 1000000 in
theorem thr_0ffn (c hh hl th tl : Int) (c0 : 0 ≤ c) (c1 : c < 18446744073709551615) (h0 : Word hh) (h1 : Word hl) (h2 : Word th) (h3 : Word tl) (e1 : low c hh hl th tl = false) (e2 : low (c + 1) hh hl th tl = false) (eb : brw hh hl th tl = 0) (k : (th == 0) = false) (w : World) :
    Calls Try.prog 9 #[.int .u64 c, .int .u64 hh, .int .u64 hl, .int .u64 th, .int .u64 tl] w fun e w' => e = .returned (.bool true) ∧ Grown w w' := by
  go_enter Try.func9, Try.ntmps9
  go_wp2_with fail
  refine (newLedger_any c hh hl 0 th tl _).mono ?_
  rintro e w' ⟨rfl, hL, C, rfl⟩
  go_wp2_with fail
  refine (zzlowered_any _ c hh hl 0 th tl _ hL).mono ?_
  rintro e w1 ⟨rfl, hg⟩
  clear hL
  go_wp2_with fail
  refine (newLedger_any (c + 1) hh hl 0 th tl _).mono ?_
  rintro e w' ⟨rfl, hL, D, rfl⟩
  go_wp2_with fail
  refine (zzlowered_any _ (c + 1) hh hl 0 th tl _ hL).mono ?_
  rintro e w2 ⟨rfl, hg2⟩
  clear hL
  go_wp2_with fail
  refine (sub128_any hh hl th tl h0 h1 h2 h3 _).mono ?_
  rintro e w' ⟨rfl, rfl⟩
  go_wp2
  go_ret
  exact ⟨rfl, Grown_trans (Grown_trans ((Grown.refl w).alloc C 62) hg) (Grown_trans ((Grown.refl w1).alloc D 62) hg2)⟩

set_option maxHeartbeats 1000000 in
theorem thr_1ttz (c hl th tl : Int) (c0 : 0 ≤ c) (c1 : c < 18446744073709551615) (h0 : Word 0) (h1 : Word hl) (h2 : Word th) (h3 : Word tl) (e1 : low c 0 hl th tl = true) (e2 : low (c + 1) 0 hl th tl = true) (eb : brw 0 hl th tl = 1) (k : (hl == c + 1) = false) (w : World) :
    Calls Try.prog 9 #[.int .u64 c, .int .u64 0, .int .u64 hl, .int .u64 th, .int .u64 tl] w fun e w' => e = .returned (.bool true) ∧ Grown w w' := by
  go_enter Try.func9, Try.ntmps9
  go_wp2_with fail
  refine (newLedger_any c 0 hl 0 th tl _).mono ?_
  rintro e w' ⟨rfl, hL, C, rfl⟩
  go_wp2_with fail
  refine (zzlowered_any _ c 0 hl 0 th tl _ hL).mono ?_
  rintro e w1 ⟨rfl, hg⟩
  clear hL
  go_wp2_with fail
  refine (newLedger_any (c + 1) 0 hl 0 th tl _).mono ?_
  rintro e w' ⟨rfl, hL, D, rfl⟩
  go_wp2_with fail
  refine (zzlowered_any _ (c + 1) 0 hl 0 th tl _ hL).mono ?_
  rintro e w2 ⟨rfl, hg2⟩
  clear hL
  go_wp2_with fail
  refine (sub128_any 0 hl th tl h0 h1 h2 h3 _).mono ?_
  rintro e w' ⟨rfl, rfl⟩
  go_wp2
  go_ret
  exact ⟨rfl, Grown_trans (Grown_trans ((Grown.refl w).alloc C 62) hg) (Grown_trans ((Grown.refl w1).alloc D 62) hg2)⟩

set_option maxHeartbeats 1000000 in
theorem thr_1ttn (c hh hl th tl : Int) (c0 : 0 ≤ c) (c1 : c < 18446744073709551615) (h0 : Word hh) (h1 : Word hl) (h2 : Word th) (h3 : Word tl) (e1 : low c hh hl th tl = true) (e2 : low (c + 1) hh hl th tl = true) (eb : brw hh hl th tl = 1) (k : (hh == 0) = false) (w : World) :
    Calls Try.prog 9 #[.int .u64 c, .int .u64 hh, .int .u64 hl, .int .u64 th, .int .u64 tl] w fun e w' => e = .returned (.bool true) ∧ Grown w w' := by
  go_enter Try.func9, Try.ntmps9
  go_wp2_with fail
  refine (newLedger_any c hh hl 0 th tl _).mono ?_
  rintro e w' ⟨rfl, hL, C, rfl⟩
  go_wp2_with fail
  refine (zzlowered_any _ c hh hl 0 th tl _ hL).mono ?_
  rintro e w1 ⟨rfl, hg⟩
  clear hL
  go_wp2_with fail
  refine (newLedger_any (c + 1) hh hl 0 th tl _).mono ?_
  rintro e w' ⟨rfl, hL, D, rfl⟩
  go_wp2_with fail
  refine (zzlowered_any _ (c + 1) hh hl 0 th tl _ hL).mono ?_
  rintro e w2 ⟨rfl, hg2⟩
  clear hL
  go_wp2_with fail
  refine (sub128_any hh hl th tl h0 h1 h2 h3 _).mono ?_
  rintro e w' ⟨rfl, rfl⟩
  go_wp2
  go_ret
  exact ⟨rfl, Grown_trans (Grown_trans ((Grown.refl w).alloc C 62) hg) (Grown_trans ((Grown.refl w1).alloc D 62) hg2)⟩

set_option maxHeartbeats 1000000 in
theorem thr_1tf (c th tl : Int) (c0 : 0 ≤ c) (c1 : c < 18446744073709551615) (h0 : Word 0) (h1 : Word (c + 1)) (h2 : Word th) (h3 : Word tl) (e1 : low c 0 (c + 1) th tl = true) (e2 : low (c + 1) 0 (c + 1) th tl = false) (eb : brw 0 (c + 1) th tl = 1)  (w : World) :
    Calls Try.prog 9 #[.int .u64 c, .int .u64 0, .int .u64 (c + 1), .int .u64 th, .int .u64 tl] w fun e w' => e = .returned (.bool true) ∧ Grown w w' := by
  go_enter Try.func9, Try.ntmps9
  go_wp2_with fail
  refine (newLedger_any c 0 (c + 1) 0 th tl _).mono ?_
  rintro e w' ⟨rfl, hL, C, rfl⟩
  go_wp2_with fail
  refine (zzlowered_any _ c 0 (c + 1) 0 th tl _ hL).mono ?_
  rintro e w1 ⟨rfl, hg⟩
  clear hL
  go_wp2_with fail
  refine (newLedger_any (c + 1) 0 (c + 1) 0 th tl _).mono ?_
  rintro e w' ⟨rfl, hL, D, rfl⟩
  go_wp2_with fail
  refine (zzlowered_any _ (c + 1) 0 (c + 1) 0 th tl _ hL).mono ?_
  rintro e w2 ⟨rfl, hg2⟩
  clear hL
  go_wp2_with fail
  refine (sub128_any 0 (c + 1) th tl h0 h1 h2 h3 _).mono ?_
  rintro e w' ⟨rfl, rfl⟩
  go_wp2
  go_ret
  exact ⟨rfl, Grown_trans (Grown_trans ((Grown.refl w).alloc C 62) hg) (Grown_trans ((Grown.refl w1).alloc D 62) hg2)⟩

set_option maxHeartbeats 1000000 in
theorem thr_1ffz (c hl th tl : Int) (c0 : 0 ≤ c) (c1 : c < 18446744073709551615) (h0 : Word 0) (h1 : Word hl) (h2 : Word th) (h3 : Word tl) (e1 : low c 0 hl th tl = false) (e2 : low (c + 1) 0 hl th tl = false) (eb : brw 0 hl th tl = 1) (k : (hl == c + 1) = false) (w : World) :
    Calls Try.prog 9 #[.int .u64 c, .int .u64 0, .int .u64 hl, .int .u64 th, .int .u64 tl] w fun e w' => e = .returned (.bool true) ∧ Grown w w' := by
  go_enter Try.func9, Try.ntmps9
  go_wp2_with fail
  refine (newLedger_any c 0 hl 0 th tl _).mono ?_
  rintro e w' ⟨rfl, hL, C, rfl⟩
  go_wp2_with fail
  refine (zzlowered_any _ c 0 hl 0 th tl _ hL).mono ?_
  rintro e w1 ⟨rfl, hg⟩
  clear hL
  go_wp2_with fail
  refine (newLedger_any (c + 1) 0 hl 0 th tl _).mono ?_
  rintro e w' ⟨rfl, hL, D, rfl⟩
  go_wp2_with fail
  refine (zzlowered_any _ (c + 1) 0 hl 0 th tl _ hL).mono ?_
  rintro e w2 ⟨rfl, hg2⟩
  clear hL
  go_wp2_with fail
  refine (sub128_any 0 hl th tl h0 h1 h2 h3 _).mono ?_
  rintro e w' ⟨rfl, rfl⟩
  go_wp2
  go_ret
  exact ⟨rfl, Grown_trans (Grown_trans ((Grown.refl w).alloc C 62) hg) (Grown_trans ((Grown.refl w1).alloc D 62) hg2)⟩

set_option maxHeartbeats 1000000 in
theorem thr_1ffn (c hh hl th tl : Int) (c0 : 0 ≤ c) (c1 : c < 18446744073709551615) (h0 : Word hh) (h1 : Word hl) (h2 : Word th) (h3 : Word tl) (e1 : low c hh hl th tl = false) (e2 : low (c + 1) hh hl th tl = false) (eb : brw hh hl th tl = 1) (k : (hh == 0) = false) (w : World) :
    Calls Try.prog 9 #[.int .u64 c, .int .u64 hh, .int .u64 hl, .int .u64 th, .int .u64 tl] w fun e w' => e = .returned (.bool true) ∧ Grown w w' := by
  go_enter Try.func9, Try.ntmps9
  go_wp2_with fail
  refine (newLedger_any c hh hl 0 th tl _).mono ?_
  rintro e w' ⟨rfl, hL, C, rfl⟩
  go_wp2_with fail
  refine (zzlowered_any _ c hh hl 0 th tl _ hL).mono ?_
  rintro e w1 ⟨rfl, hg⟩
  clear hL
  go_wp2_with fail
  refine (newLedger_any (c + 1) hh hl 0 th tl _).mono ?_
  rintro e w' ⟨rfl, hL, D, rfl⟩
  go_wp2_with fail
  refine (zzlowered_any _ (c + 1) hh hl 0 th tl _ hL).mono ?_
  rintro e w2 ⟨rfl, hg2⟩
  clear hL
  go_wp2_with fail
  refine (sub128_any hh hl th tl h0 h1 h2 h3 _).mono ?_
  rintro e w' ⟨rfl, rfl⟩
  go_wp2
  go_ret
  exact ⟨rfl, Grown_trans (Grown_trans ((Grown.refl w).alloc C 62) hg) (Grown_trans ((Grown.refl w1).alloc D 62) hg2)⟩

theorem thr_walk (c hh hl th tl : Int) (hc : Word c) (h0 : Word hh) (h1 : Word hl) (h2 : Word th) (h3 : Word tl) (w : World) :
    Calls Try.prog 9 #[.int .u64 c, .int .u64 hh, .int .u64 hl, .int .u64 th, .int .u64 tl] w fun e w' => e = .returned (.bool true) ∧ Grown w w' := by
  obtain ⟨c0, c2⟩ := hc
  have p0 := h0.1; have p1 := h1.1; have p2 := h2.1; have p3 := h3.1
  by_cases m : c = 18446744073709551615
  · subst m; exact thr_top hh hl th tl w
  · have c1 : c < 18446744073709551615 := by omega
    by_cases q : hh < th ∨ (hh = th ∧ hl < tl)
    · have eb : brw hh hl th tl = 1 := brw_1 q
      cases e1 : low c hh hl th tl
      · have e2 : low (c + 1) hh hl th tl = false := by rw [low_not] at e1 ⊢; omega
        by_cases z : hh = 0
        · subst z; exact thr_1ffz c hl th tl c0 c1 h0 h1 h2 h3 e1 e2 eb (beq_f (by rw [low_not] at e1; omega)) w
        · exact thr_1ffn c hh hl th tl c0 c1 h0 h1 h2 h3 e1 e2 eb (beq_f z) w
      · cases e2 : low (c + 1) hh hl th tl
        · obtain ⟨z1, z2⟩ : hh = 0 ∧ hl = c + 1 := by rw [low_iff] at e1; rw [low_not] at e2; omega
          subst z1 z2
          exact thr_1tf c th tl c0 c1 h0 h1 h2 h3 e1 e2 eb w
        · by_cases z : hh = 0
          · subst z; exact thr_1ttz c hl th tl c0 c1 h0 h1 h2 h3 e1 e2 eb (beq_f (by rw [low_iff] at e2; omega)) w
          · exact thr_1ttn c hh hl th tl c0 c1 h0 h1 h2 h3 e1 e2 eb (beq_f z) w
    · have eb : brw hh hl th tl = 0 := brw_0 q
      cases e1 : low c hh hl th tl
      · have e2 : low (c + 1) hh hl th tl = false := by rw [low_not] at e1 ⊢; omega
        by_cases z : th = 0
        · subst z; exact thr_0ffz c hh hl tl c0 c1 h0 h1 h2 h3 e1 e2 eb (beq_f (by rw [low_not] at e1; omega)) w
        · exact thr_0ffn c hh hl th tl c0 c1 h0 h1 h2 h3 e1 e2 eb (beq_f z) w
      · cases e2 : low (c + 1) hh hl th tl
        · obtain ⟨z1, z2⟩ : th = 0 ∧ tl = c + 1 := by rw [low_iff] at e1; rw [low_not] at e2; omega
          subst z1 z2
          exact thr_0tf c hh hl c0 c1 h0 h1 h2 h3 e1 e2 eb w
        · by_cases z : th = 0
          · subst z; exact thr_0ttz c hh hl tl c0 c1 h0 h1 h2 h3 e1 e2 eb (beq_f (by rw [low_iff] at e2; omega)) w
          · exact thr_0ttn c hh hl th tl c0 c1 h0 h1 h2 h3 e1 e2 eb (beq_f z) w
end Go.Proofs.Qxb6608657a
