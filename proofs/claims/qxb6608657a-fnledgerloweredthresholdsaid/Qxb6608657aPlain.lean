/-
  PLAIN ARITHMETIC for seat b6608657a: no Go in sight. The full subtractor's borrow formula over 64-bit words, and the 128-bit order.
-/
import Derived.Laws.BitsAllLaws
namespace Go.Proofs.Qxb6608657a

/-- A 64-bit word. -/
def Word (x : Int) : Prop := 0 ≤ x ∧ x < 18446744073709551616
/-- A signed 64-bit word. -/
def SWord (x : Int) : Prop := -9223372036854775808 ≤ x ∧ x < 9223372036854775808

theorem word_mod (x : Int) : Word (x % 18446744073709551616) := ⟨by omega, by omega⟩

theorem top_div (n : Nat) (h : n < 18446744073709551616) : n / 9223372036854775808 = (n.testBit 63).toNat := by
  rw [Nat.testBit_eq_decide_div_mod_eq]
  have e : n / 2 ^ 63 = n / 9223372036854775808 := rfl
  rw [e]
  have h2 : n / 9223372036854775808 = 0 ∨ n / 9223372036854775808 = 1 := by omega
  rcases h2 with h2 | h2 <;> rw [h2] <;> rfl

theorem top_of (n : Nat) (h : n < 18446744073709551616) : n.testBit 63 = decide (9223372036854775808 ≤ n) := by
  rw [Nat.testBit_eq_decide_div_mod_eq]
  have e : n / 2 ^ 63 = n / 9223372036854775808 := rfl
  rw [e]
  by_cases h2 : 9223372036854775808 ≤ n
  · have : n / 9223372036854775808 = 1 := by omega
    simp [this, h2]
  · have : n / 9223372036854775808 = 0 := by omega
    simp [this, h2]

theorem borrow_top (x y d : Nat) (hx : x < 18446744073709551616) (hy : y < 18446744073709551616) (hd : d < 18446744073709551616) :
    ((((18446744073709551615 ^^^ x) &&& y) ||| ((18446744073709551615 ^^^ (x ^^^ y)) &&& d)) / 9223372036854775808) =
      if (x < 9223372036854775808 ∧ 9223372036854775808 ≤ y) ∨ ((x < 9223372036854775808 ↔ y < 9223372036854775808) ∧ 9223372036854775808 ≤ d) then 1 else 0 := by
  have m : (18446744073709551615 : Nat) < 2 ^ 64 := by decide
  have l1 : ((18446744073709551615 ^^^ x) &&& y) < 2 ^ 64 := Nat.and_lt_two_pow _ (by omega)
  have l2 : ((18446744073709551615 ^^^ (x ^^^ y)) &&& d) < 2 ^ 64 := Nat.and_lt_two_pow _ (by omega)
  have l3 := Nat.or_lt_two_pow l1 l2
  rw [top_div _ (by omega)]
  simp only [Nat.testBit_or, Nat.testBit_and, Nat.testBit_xor, top_of x hx, top_of y hy, top_of d hd, top_of 18446744073709551615 (by decide)]
  by_cases c1 : 9223372036854775808 ≤ x <;> by_cases c2 : 9223372036854775808 ≤ y <;> by_cases c3 : 9223372036854775808 ≤ d <;>
    simp [c1, c2, c3, Nat.not_lt.mpr, Nat.not_le.mp] <;> omega

/-- The subtractor's borrow out of one word, as the Go text reckons it: x the upper, y the lower, d the difference. -/
def bout (x y d : Int) : Int :=
  bits .or .u64 (bits .and .u64 (bits .xor .u64 IntKind.u64.max x) y) (bits .and .u64 (bits .xor .u64 IntKind.u64.max (bits .xor .u64 x y)) d) / 9223372036854775808

theorem bout_nat (x y d : Nat) (hx : x < 18446744073709551616) (hy : y < 18446744073709551616) (hd : d < 18446744073709551616) :
    bout x y d = if (x < 9223372036854775808 ∧ 9223372036854775808 ≤ y) ∨ ((x < 9223372036854775808 ↔ y < 9223372036854775808) ∧ 9223372036854775808 ≤ d) then 1 else 0 := by
  unfold bout
  have m : (18446744073709551615 : Nat) < 2 ^ 64 := by decide
  have x1 : 18446744073709551615 ^^^ x < 2 ^ 64 := Nat.xor_lt_two_pow m (by omega)
  have x2 : x ^^^ y < 2 ^ 64 := Nat.xor_lt_two_pow (by omega) (by omega)
  have x3 : 18446744073709551615 ^^^ (x ^^^ y) < 2 ^ 64 := Nat.xor_lt_two_pow m x2
  have l1 : ((18446744073709551615 ^^^ x) &&& y) < 2 ^ 64 := Nat.and_lt_two_pow _ (by omega)
  have l2 : ((18446744073709551615 ^^^ (x ^^^ y)) &&& d) < 2 ^ 64 := Nat.and_lt_two_pow _ (by omega)
  have e0 : IntKind.u64.max = ((18446744073709551615 : Nat) : Int) := by decide
  rw [e0, u64_xor_nat _ x (by omega) hx, u64_xor_nat x y hx hy, u64_xor_nat _ _ (by omega) (by omega), u64_and_nat _ _ (by omega) hy, u64_and_nat _ _ (by omega) hd, u64_or_nat _ _ (by omega) (by omega)]
  have e1 : (9223372036854775808 : Int) = ((9223372036854775808 : Nat) : Int) := rfl
  rw [e1, ← Int.natCast_ediv, borrow_top x y d hx hy hd]
  split <;> rfl

/-- One word's subtraction with a borrow in: the formula gives the borrow out. -/
theorem bout_eq (x y b : Int) (hx : Word x) (hy : Word y) (hb0 : 0 ≤ b) (hb1 : b ≤ 1) :
    bout x y ((x - y - b) % 18446744073709551616) = if x < y + b then 1 else 0 := by
  obtain ⟨x0, x1⟩ := hx
  obtain ⟨y0, y1⟩ := hy
  obtain ⟨X, rfl⟩ := Int.eq_ofNat_of_zero_le x0
  obtain ⟨Y, rfl⟩ := Int.eq_ofNat_of_zero_le y0
  have d0 : 0 ≤ ((X : Int) - Y - b) % 18446744073709551616 := by omega
  obtain ⟨D, hD⟩ := Int.eq_ofNat_of_zero_le d0
  rw [hD, bout_nat X Y D (by omega) (by omega) (by omega)]
  by_cases c : (X : Int) < Y + b
  · rw [if_pos c, if_pos (by omega)]
  · rw [if_neg c, if_neg (by omega)]

/-- 1 where the 128-bit number x is below y, else 0. -/
def brw (xh xl yh yl : Int) : Int := if xh < yh ∨ (xh = yh ∧ xl < yl) then 1 else 0
/-- The low word's borrow. -/
def bor (x y : Int) : Int := if x < y then 1 else 0
theorem bor_01 (x y : Int) : 0 ≤ bor x y ∧ bor x y ≤ 1 := by unfold bor; split <;> omega
theorem brw_01 (a b c d : Int) : 0 ≤ brw a b c d ∧ brw a b c d ≤ 1 := by unfold brw; split <;> omega

theorem bout_lo (xl yl : Int) (hx : Word xl) (hy : Word yl) : bout xl yl ((xl - yl) % 18446744073709551616) = bor xl yl := by
  have := bout_eq xl yl 0 hx hy (by omega) (by omega)
  simpa [bor] using this
theorem bout_hi (xh xl yh yl : Int) (hxh : Word xh) (hyh : Word yh) :
    bout xh yh ((xh - yh - bor xl yl) % 18446744073709551616) = brw xh xl yh yl := by
  have k := bor_01 xl yl
  rw [bout_eq xh yh (bor xl yl) hxh hyh k.1 k.2]
  unfold bor brw
  obtain ⟨_, _⟩ := hxh; obtain ⟨_, _⟩ := hyh
  by_cases c : xl < yl
  · rw [if_pos c]; by_cases c2 : xh < yh + 1
    · rw [if_pos c2, if_pos (by omega)]
    · rw [if_neg c2, if_neg (by omega)]
  · rw [if_neg c]; by_cases c2 : xh < yh + 0
    · rw [if_pos c2, if_pos (by omega)]
    · rw [if_neg c2, if_neg (by omega)]

/-! What zzEngB1Sub128 leaves in its slots, as the walk spells it. -/
theorem raw_dlo (xl yl : Int) : IntKind.u64.wrap (xl - yl) = (xl - yl) % 18446744073709551616 := IntKind.wrap_u64 _
theorem raw_dhi (xh xl yh yl : Int) (h2 : Word xl) (h4 : Word yl) :
    IntKind.u64.wrap (IntKind.u64.wrap (xh - yh) - bout xl yl (IntKind.u64.wrap (xl - yl))) = (xh - yh - bor xl yl) % 18446744073709551616 := by
  rw [IntKind.wrap_u64, IntKind.wrap_u64, IntKind.wrap_u64, bout_lo xl yl h2 h4]
  omega
theorem raw_b2 (xh xl yh yl : Int) (h1 : Word xh) (h2 : Word xl) (h3 : Word yh) (h4 : Word yl) :
    bout xh yh (IntKind.u64.wrap (IntKind.u64.wrap (xh - yh) - bout xl yl (IntKind.u64.wrap (xl - yl)))) = brw xh xl yh yl := by
  rw [raw_dhi xh xl yh yl h2 h4, bout_hi xh xl yh yl h1 h3]

/-- The sign of the 128-bit subtraction. -/
theorem or_zero (a b : Int) (ha : Word a) (hb : Word b) : bits .or .u64 a b = 0 ↔ a = 0 ∧ b = 0 := by
  rw [u64_or a b ha.1 ha.2 hb.1 hb.2]
  obtain ⟨a0, a1⟩ := ha
  obtain ⟨b0, b1⟩ := hb
  have e : a.toNat ||| b.toNat = 0 ↔ a.toNat = 0 ∧ b.toNat = 0 := Nat.or_eq_zero_iff
  omega

end Go.Proofs.Qxb6608657a
