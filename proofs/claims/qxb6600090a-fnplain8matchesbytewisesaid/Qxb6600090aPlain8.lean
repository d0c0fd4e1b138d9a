namespace Go.Proofs.Qxb6600090a.P8
set_option linter.unusedVariables false

/-- Byte i of x. -/
def byt (x i : Nat) : Nat := x / 2 ^ (8 * i) % 256

def ones : Nat := 72340172838076673
def highs : Nat := 9259542123273814144

theorem and_bit (z i : Nat) : (z &&& 2 ^ i = 0) ↔ z / 2 ^ i % 2 = 0 := by
  have h := Nat.testBit_eq_decide_div_mod_eq (x := z) (i := i)
  constructor
  · intro e
    have : (z &&& 2 ^ i).testBit i = false := by rw [e]; simp
    rw [Nat.testBit_and, Nat.testBit_two_pow_self, Bool.and_true, h] at this
    simp at this; omega
  · intro e
    apply Nat.eq_of_testBit_eq
    intro j
    rw [Nat.testBit_and, Nat.zero_testBit]
    by_cases hj : i = j
    · subst hj; rw [h]; simp; omega
    · rw [Nat.testBit_two_pow_of_ne hj]; simp

theorem and_highs (z : Nat) : (z &&& highs = 0) ↔
    (z / 2 ^ 7 % 2 = 0 ∧ z / 2 ^ 15 % 2 = 0 ∧ z / 2 ^ 23 % 2 = 0 ∧ z / 2 ^ 31 % 2 = 0 ∧ z / 2 ^ 39 % 2 = 0 ∧ z / 2 ^ 47 % 2 = 0 ∧ z / 2 ^ 55 % 2 = 0 ∧ z / 2 ^ 63 % 2 = 0) := by
  have e : highs = 2 ^ 7 ||| (2 ^ 15 ||| (2 ^ 23 ||| (2 ^ 31 ||| (2 ^ 39 ||| (2 ^ 47 ||| (2 ^ 55 ||| 2 ^ 63)))))) := by decide
  rw [e]
  simp only [Nat.and_or_distrib_left, Nat.or_eq_zero_iff, and_bit]

/-- Bit p of 'a and not b' (b a word). -/
theorem andnot_bit (a b p : Nat) (hp : p < 64) (hb : b < 18446744073709551616) :
    ((a &&& (18446744073709551615 - b)) / 2 ^ p % 2 = 0) ↔ (a / 2 ^ p % 2 = 0 ∨ b / 2 ^ p % 2 = 1) := by
  have h1 := Nat.testBit_eq_decide_div_mod_eq (x := a &&& (18446744073709551615 - b)) (i := p)
  have h2 := Nat.testBit_eq_decide_div_mod_eq (x := a) (i := p)
  have h3 := Nat.testBit_eq_decide_div_mod_eq (x := b) (i := p)
  have h4 : (18446744073709551615 - b).testBit p = (decide (p < 64) && !b.testBit p) := by
    have := Nat.testBit_two_pow_sub_succ (x := b) (n := 64) (by omega) p
    have e : 2 ^ 64 - (b + 1) = 18446744073709551615 - b := by omega
    rw [e] at this; exact this
  rw [Nat.testBit_and, h4, h2, h3] at h1
  simp only [hp, decide_true, Bool.true_and] at h1
  have := h1
  by_cases ha : a / 2 ^ p % 2 = 1 <;> by_cases hbb : b / 2 ^ p % 2 = 1 <;> simp [ha, hbb] at this ⊢ <;> omega

/-- The word of eight bytes. -/
def word (b0 b1 b2 b3 b4 b5 b6 b7 : Nat) : Nat := b0 + 256 * b1 + 65536 * b2 + 16777216 * b3 + 4294967296 * b4 + 1099511627776 * b5 + 281474976710656 * b6 + 72057594037927936 * b7

theorem bit_of (P lo b hi z : Nat) (hP : 0 < P) (hlo : lo < P) (hb : b < 256) (hz : z = lo + P * (b + 256 * hi)) : z / (P * 128) % 2 = b / 128 := by
  have e : z / P = b + 256 * hi := by
    subst hz
    rw [Nat.add_mul_div_left _ _ hP, Nat.div_eq_of_lt hlo, Nat.zero_add]
  rw [← Nat.div_div_eq_div_mul, e]
  omega

theorem xbit0 (b0 b1 b2 b3 b4 b5 b6 b7 x : Nat) (h0 : b0 < 256) (h1 : b1 < 256) (h2 : b2 < 256) (h3 : b3 < 256) (h4 : b4 < 256) (h5 : b5 < 256) (h6 : b6 < 256) (h7 : b7 < 256) (hx : x = word b0 b1 b2 b3 b4 b5 b6 b7) : x / 128 % 2 = b0 / 128 :=
  bit_of 1 (0) b0 (1 * b1+256 * b2+65536 * b3+16777216 * b4+4294967296 * b5+1099511627776 * b6+281474976710656 * b7) x (by decide) (by omega) h0 (by rw [hx]; unfold word; omega)
theorem abit0_lt (b0 b1 b2 b3 b4 b5 b6 b7 c a x : Nat) (h0 : b0 < 256) (h1 : b1 < 256) (h2 : b2 < 256) (h3 : b3 < 256) (h4 : b4 < 256) (h5 : b5 < 256) (h6 : b6 < 256) (h7 : b7 < 256) (hx : x = word b0 b1 b2 b3 b4 b5 b6 b7) (hc : c ≤ 32) (ha : a = (x + 18446744073709551616 - c * 72340172838076673) % 18446744073709551616)  (gk : b0 < c) : a / 128 % 2 = 1 := by
  have hb : (b0 + 256 - c) / 128 = 1 := by omega
  rw [← hb]
  refine bit_of 1 ((0) - c * 0) (b0 + 256 - c) (((1 * b1+256 * b2+65536 * b3+16777216 * b4+4294967296 * b5+1099511627776 * b6+281474976710656 * b7) + 72057594037927936 - c * 282578800148737 - 1) % 72057594037927936) a (by decide) (by omega) (by omega) ?_
  rw [ha, hx]; unfold word
  omega
theorem xbit1 (b0 b1 b2 b3 b4 b5 b6 b7 x : Nat) (h0 : b0 < 256) (h1 : b1 < 256) (h2 : b2 < 256) (h3 : b3 < 256) (h4 : b4 < 256) (h5 : b5 < 256) (h6 : b6 < 256) (h7 : b7 < 256) (hx : x = word b0 b1 b2 b3 b4 b5 b6 b7) : x / 32768 % 2 = b1 / 128 :=
  bit_of 256 (1 * b0) b1 (1 * b2+256 * b3+65536 * b4+16777216 * b5+4294967296 * b6+1099511627776 * b7) x (by decide) (by omega) h1 (by rw [hx]; unfold word; omega)
theorem abit1_lt (b0 b1 b2 b3 b4 b5 b6 b7 c a x : Nat) (h0 : b0 < 256) (h1 : b1 < 256) (h2 : b2 < 256) (h3 : b3 < 256) (h4 : b4 < 256) (h5 : b5 < 256) (h6 : b6 < 256) (h7 : b7 < 256) (hx : x = word b0 b1 b2 b3 b4 b5 b6 b7) (hc : c ≤ 32) (ha : a = (x + 18446744073709551616 - c * 72340172838076673) % 18446744073709551616) (g0 : c ≤ b0) (gk : b1 < c) : a / 32768 % 2 = 1 := by
  have hb : (b1 + 256 - c) / 128 = 1 := by omega
  rw [← hb]
  refine bit_of 256 ((1 * b0) - c * 1) (b1 + 256 - c) (((1 * b2+256 * b3+65536 * b4+16777216 * b5+4294967296 * b6+1099511627776 * b7) + 281474976710656 - c * 1103823438081 - 1) % 281474976710656) a (by decide) (by omega) (by omega) ?_
  rw [ha, hx]; unfold word
  omega
theorem xbit2 (b0 b1 b2 b3 b4 b5 b6 b7 x : Nat) (h0 : b0 < 256) (h1 : b1 < 256) (h2 : b2 < 256) (h3 : b3 < 256) (h4 : b4 < 256) (h5 : b5 < 256) (h6 : b6 < 256) (h7 : b7 < 256) (hx : x = word b0 b1 b2 b3 b4 b5 b6 b7) : x / 8388608 % 2 = b2 / 128 :=
  bit_of 65536 (1 * b0+256 * b1) b2 (1 * b3+256 * b4+65536 * b5+16777216 * b6+4294967296 * b7) x (by decide) (by omega) h2 (by rw [hx]; unfold word; omega)
theorem abit2_lt (b0 b1 b2 b3 b4 b5 b6 b7 c a x : Nat) (h0 : b0 < 256) (h1 : b1 < 256) (h2 : b2 < 256) (h3 : b3 < 256) (h4 : b4 < 256) (h5 : b5 < 256) (h6 : b6 < 256) (h7 : b7 < 256) (hx : x = word b0 b1 b2 b3 b4 b5 b6 b7) (hc : c ≤ 32) (ha : a = (x + 18446744073709551616 - c * 72340172838076673) % 18446744073709551616) (g0 : c ≤ b0) (g1 : c ≤ b1) (gk : b2 < c) : a / 8388608 % 2 = 1 := by
  have hb : (b2 + 256 - c) / 128 = 1 := by omega
  rw [← hb]
  refine bit_of 65536 ((1 * b0+256 * b1) - c * 257) (b2 + 256 - c) (((1 * b3+256 * b4+65536 * b5+16777216 * b6+4294967296 * b7) + 1099511627776 - c * 4311810305 - 1) % 1099511627776) a (by decide) (by omega) (by omega) ?_
  rw [ha, hx]; unfold word
  omega
theorem xbit3 (b0 b1 b2 b3 b4 b5 b6 b7 x : Nat) (h0 : b0 < 256) (h1 : b1 < 256) (h2 : b2 < 256) (h3 : b3 < 256) (h4 : b4 < 256) (h5 : b5 < 256) (h6 : b6 < 256) (h7 : b7 < 256) (hx : x = word b0 b1 b2 b3 b4 b5 b6 b7) : x / 2147483648 % 2 = b3 / 128 :=
  bit_of 16777216 (1 * b0+256 * b1+65536 * b2) b3 (1 * b4+256 * b5+65536 * b6+16777216 * b7) x (by decide) (by omega) h3 (by rw [hx]; unfold word; omega)
theorem abit3_lt (b0 b1 b2 b3 b4 b5 b6 b7 c a x : Nat) (h0 : b0 < 256) (h1 : b1 < 256) (h2 : b2 < 256) (h3 : b3 < 256) (h4 : b4 < 256) (h5 : b5 < 256) (h6 : b6 < 256) (h7 : b7 < 256) (hx : x = word b0 b1 b2 b3 b4 b5 b6 b7) (hc : c ≤ 32) (ha : a = (x + 18446744073709551616 - c * 72340172838076673) % 18446744073709551616) (g0 : c ≤ b0) (g1 : c ≤ b1) (g2 : c ≤ b2) (gk : b3 < c) : a / 2147483648 % 2 = 1 := by
  have hb : (b3 + 256 - c) / 128 = 1 := by omega
  rw [← hb]
  refine bit_of 16777216 ((1 * b0+256 * b1+65536 * b2) - c * 65793) (b3 + 256 - c) (((1 * b4+256 * b5+65536 * b6+16777216 * b7) + 4294967296 - c * 16843009 - 1) % 4294967296) a (by decide) (by omega) (by omega) ?_
  rw [ha, hx]; unfold word
  omega
theorem xbit4 (b0 b1 b2 b3 b4 b5 b6 b7 x : Nat) (h0 : b0 < 256) (h1 : b1 < 256) (h2 : b2 < 256) (h3 : b3 < 256) (h4 : b4 < 256) (h5 : b5 < 256) (h6 : b6 < 256) (h7 : b7 < 256) (hx : x = word b0 b1 b2 b3 b4 b5 b6 b7) : x / 549755813888 % 2 = b4 / 128 :=
  bit_of 4294967296 (1 * b0+256 * b1+65536 * b2+16777216 * b3) b4 (1 * b5+256 * b6+65536 * b7) x (by decide) (by omega) h4 (by rw [hx]; unfold word; omega)
theorem abit4_lt (b0 b1 b2 b3 b4 b5 b6 b7 c a x : Nat) (h0 : b0 < 256) (h1 : b1 < 256) (h2 : b2 < 256) (h3 : b3 < 256) (h4 : b4 < 256) (h5 : b5 < 256) (h6 : b6 < 256) (h7 : b7 < 256) (hx : x = word b0 b1 b2 b3 b4 b5 b6 b7) (hc : c ≤ 32) (ha : a = (x + 18446744073709551616 - c * 72340172838076673) % 18446744073709551616) (g0 : c ≤ b0) (g1 : c ≤ b1) (g2 : c ≤ b2) (g3 : c ≤ b3) (gk : b4 < c) : a / 549755813888 % 2 = 1 := by
  have hb : (b4 + 256 - c) / 128 = 1 := by omega
  rw [← hb]
  refine bit_of 4294967296 ((1 * b0+256 * b1+65536 * b2+16777216 * b3) - c * 16843009) (b4 + 256 - c) (((1 * b5+256 * b6+65536 * b7) + 16777216 - c * 65793 - 1) % 16777216) a (by decide) (by omega) (by omega) ?_
  rw [ha, hx]; unfold word
  omega
theorem xbit5 (b0 b1 b2 b3 b4 b5 b6 b7 x : Nat) (h0 : b0 < 256) (h1 : b1 < 256) (h2 : b2 < 256) (h3 : b3 < 256) (h4 : b4 < 256) (h5 : b5 < 256) (h6 : b6 < 256) (h7 : b7 < 256) (hx : x = word b0 b1 b2 b3 b4 b5 b6 b7) : x / 140737488355328 % 2 = b5 / 128 :=
  bit_of 1099511627776 (1 * b0+256 * b1+65536 * b2+16777216 * b3+4294967296 * b4) b5 (1 * b6+256 * b7) x (by decide) (by omega) h5 (by rw [hx]; unfold word; omega)
theorem abit5_lt (b0 b1 b2 b3 b4 b5 b6 b7 c a x : Nat) (h0 : b0 < 256) (h1 : b1 < 256) (h2 : b2 < 256) (h3 : b3 < 256) (h4 : b4 < 256) (h5 : b5 < 256) (h6 : b6 < 256) (h7 : b7 < 256) (hx : x = word b0 b1 b2 b3 b4 b5 b6 b7) (hc : c ≤ 32) (ha : a = (x + 18446744073709551616 - c * 72340172838076673) % 18446744073709551616) (g0 : c ≤ b0) (g1 : c ≤ b1) (g2 : c ≤ b2) (g3 : c ≤ b3) (g4 : c ≤ b4) (gk : b5 < c) : a / 140737488355328 % 2 = 1 := by
  have hb : (b5 + 256 - c) / 128 = 1 := by omega
  rw [← hb]
  refine bit_of 1099511627776 ((1 * b0+256 * b1+65536 * b2+16777216 * b3+4294967296 * b4) - c * 4311810305) (b5 + 256 - c) (((1 * b6+256 * b7) + 65536 - c * 257 - 1) % 65536) a (by decide) (by omega) (by omega) ?_
  rw [ha, hx]; unfold word
  omega
theorem xbit6 (b0 b1 b2 b3 b4 b5 b6 b7 x : Nat) (h0 : b0 < 256) (h1 : b1 < 256) (h2 : b2 < 256) (h3 : b3 < 256) (h4 : b4 < 256) (h5 : b5 < 256) (h6 : b6 < 256) (h7 : b7 < 256) (hx : x = word b0 b1 b2 b3 b4 b5 b6 b7) : x / 36028797018963968 % 2 = b6 / 128 :=
  bit_of 281474976710656 (1 * b0+256 * b1+65536 * b2+16777216 * b3+4294967296 * b4+1099511627776 * b5) b6 (1 * b7) x (by decide) (by omega) h6 (by rw [hx]; unfold word; omega)
theorem abit6_lt (b0 b1 b2 b3 b4 b5 b6 b7 c a x : Nat) (h0 : b0 < 256) (h1 : b1 < 256) (h2 : b2 < 256) (h3 : b3 < 256) (h4 : b4 < 256) (h5 : b5 < 256) (h6 : b6 < 256) (h7 : b7 < 256) (hx : x = word b0 b1 b2 b3 b4 b5 b6 b7) (hc : c ≤ 32) (ha : a = (x + 18446744073709551616 - c * 72340172838076673) % 18446744073709551616) (g0 : c ≤ b0) (g1 : c ≤ b1) (g2 : c ≤ b2) (g3 : c ≤ b3) (g4 : c ≤ b4) (g5 : c ≤ b5) (gk : b6 < c) : a / 36028797018963968 % 2 = 1 := by
  have hb : (b6 + 256 - c) / 128 = 1 := by omega
  rw [← hb]
  refine bit_of 281474976710656 ((1 * b0+256 * b1+65536 * b2+16777216 * b3+4294967296 * b4+1099511627776 * b5) - c * 1103823438081) (b6 + 256 - c) (((1 * b7) + 256 - c * 1 - 1) % 256) a (by decide) (by omega) (by omega) ?_
  rw [ha, hx]; unfold word
  omega
theorem xbit7 (b0 b1 b2 b3 b4 b5 b6 b7 x : Nat) (h0 : b0 < 256) (h1 : b1 < 256) (h2 : b2 < 256) (h3 : b3 < 256) (h4 : b4 < 256) (h5 : b5 < 256) (h6 : b6 < 256) (h7 : b7 < 256) (hx : x = word b0 b1 b2 b3 b4 b5 b6 b7) : x / 9223372036854775808 % 2 = b7 / 128 :=
  bit_of 72057594037927936 (1 * b0+256 * b1+65536 * b2+16777216 * b3+4294967296 * b4+1099511627776 * b5+281474976710656 * b6) b7 (0) x (by decide) (by omega) h7 (by rw [hx]; unfold word; omega)
theorem abit7_lt (b0 b1 b2 b3 b4 b5 b6 b7 c a x : Nat) (h0 : b0 < 256) (h1 : b1 < 256) (h2 : b2 < 256) (h3 : b3 < 256) (h4 : b4 < 256) (h5 : b5 < 256) (h6 : b6 < 256) (h7 : b7 < 256) (hx : x = word b0 b1 b2 b3 b4 b5 b6 b7) (hc : c ≤ 32) (ha : a = (x + 18446744073709551616 - c * 72340172838076673) % 18446744073709551616) (g0 : c ≤ b0) (g1 : c ≤ b1) (g2 : c ≤ b2) (g3 : c ≤ b3) (g4 : c ≤ b4) (g5 : c ≤ b5) (g6 : c ≤ b6) (gk : b7 < c) : a / 9223372036854775808 % 2 = 1 := by
  have hb : (b7 + 256 - c) / 128 = 1 := by omega
  rw [← hb]
  refine bit_of 72057594037927936 ((1 * b0+256 * b1+65536 * b2+16777216 * b3+4294967296 * b4+1099511627776 * b5+281474976710656 * b6) - c * 282578800148737) (b7 + 256 - c) (((0) + 1 - c * 0 - 1) % 1) a (by decide) (by omega) (by omega) ?_
  rw [ha, hx]; unfold word
  omega
theorem abit0_ge (b0 b1 b2 b3 b4 b5 b6 b7 c a x : Nat) (h0 : b0 < 256) (h1 : b1 < 256) (h2 : b2 < 256) (h3 : b3 < 256) (h4 : b4 < 256) (h5 : b5 < 256) (h6 : b6 < 256) (h7 : b7 < 256) (hx : x = word b0 b1 b2 b3 b4 b5 b6 b7) (hc : c ≤ 32) (ha : a = (x + 18446744073709551616 - c * 72340172838076673) % 18446744073709551616) (g0 : c ≤ b0) (g1 : c ≤ b1) (g2 : c ≤ b2) (g3 : c ≤ b3) (g4 : c ≤ b4) (g5 : c ≤ b5) (g6 : c ≤ b6) (g7 : c ≤ b7) : a / 128 % 2 = (b0 - c) / 128 := by
  refine bit_of 1 ((0) - c * 0) (b0 - c) ((1 * b1+256 * b2+65536 * b3+16777216 * b4+4294967296 * b5+1099511627776 * b6+281474976710656 * b7) - c * 282578800148737) a (by decide) (by omega) (by omega) ?_
  rw [ha, hx]; unfold word
  omega
theorem abit1_ge (b0 b1 b2 b3 b4 b5 b6 b7 c a x : Nat) (h0 : b0 < 256) (h1 : b1 < 256) (h2 : b2 < 256) (h3 : b3 < 256) (h4 : b4 < 256) (h5 : b5 < 256) (h6 : b6 < 256) (h7 : b7 < 256) (hx : x = word b0 b1 b2 b3 b4 b5 b6 b7) (hc : c ≤ 32) (ha : a = (x + 18446744073709551616 - c * 72340172838076673) % 18446744073709551616) (g0 : c ≤ b0) (g1 : c ≤ b1) (g2 : c ≤ b2) (g3 : c ≤ b3) (g4 : c ≤ b4) (g5 : c ≤ b5) (g6 : c ≤ b6) (g7 : c ≤ b7) : a / 32768 % 2 = (b1 - c) / 128 := by
  refine bit_of 256 ((1 * b0) - c * 1) (b1 - c) ((1 * b2+256 * b3+65536 * b4+16777216 * b5+4294967296 * b6+1099511627776 * b7) - c * 1103823438081) a (by decide) (by omega) (by omega) ?_
  rw [ha, hx]; unfold word
  omega
theorem abit2_ge (b0 b1 b2 b3 b4 b5 b6 b7 c a x : Nat) (h0 : b0 < 256) (h1 : b1 < 256) (h2 : b2 < 256) (h3 : b3 < 256) (h4 : b4 < 256) (h5 : b5 < 256) (h6 : b6 < 256) (h7 : b7 < 256) (hx : x = word b0 b1 b2 b3 b4 b5 b6 b7) (hc : c ≤ 32) (ha : a = (x + 18446744073709551616 - c * 72340172838076673) % 18446744073709551616) (g0 : c ≤ b0) (g1 : c ≤ b1) (g2 : c ≤ b2) (g3 : c ≤ b3) (g4 : c ≤ b4) (g5 : c ≤ b5) (g6 : c ≤ b6) (g7 : c ≤ b7) : a / 8388608 % 2 = (b2 - c) / 128 := by
  refine bit_of 65536 ((1 * b0+256 * b1) - c * 257) (b2 - c) ((1 * b3+256 * b4+65536 * b5+16777216 * b6+4294967296 * b7) - c * 4311810305) a (by decide) (by omega) (by omega) ?_
  rw [ha, hx]; unfold word
  omega
theorem abit3_ge (b0 b1 b2 b3 b4 b5 b6 b7 c a x : Nat) (h0 : b0 < 256) (h1 : b1 < 256) (h2 : b2 < 256) (h3 : b3 < 256) (h4 : b4 < 256) (h5 : b5 < 256) (h6 : b6 < 256) (h7 : b7 < 256) (hx : x = word b0 b1 b2 b3 b4 b5 b6 b7) (hc : c ≤ 32) (ha : a = (x + 18446744073709551616 - c * 72340172838076673) % 18446744073709551616) (g0 : c ≤ b0) (g1 : c ≤ b1) (g2 : c ≤ b2) (g3 : c ≤ b3) (g4 : c ≤ b4) (g5 : c ≤ b5) (g6 : c ≤ b6) (g7 : c ≤ b7) : a / 2147483648 % 2 = (b3 - c) / 128 := by
  refine bit_of 16777216 ((1 * b0+256 * b1+65536 * b2) - c * 65793) (b3 - c) ((1 * b4+256 * b5+65536 * b6+16777216 * b7) - c * 16843009) a (by decide) (by omega) (by omega) ?_
  rw [ha, hx]; unfold word
  omega
theorem abit4_ge (b0 b1 b2 b3 b4 b5 b6 b7 c a x : Nat) (h0 : b0 < 256) (h1 : b1 < 256) (h2 : b2 < 256) (h3 : b3 < 256) (h4 : b4 < 256) (h5 : b5 < 256) (h6 : b6 < 256) (h7 : b7 < 256) (hx : x = word b0 b1 b2 b3 b4 b5 b6 b7) (hc : c ≤ 32) (ha : a = (x + 18446744073709551616 - c * 72340172838076673) % 18446744073709551616) (g0 : c ≤ b0) (g1 : c ≤ b1) (g2 : c ≤ b2) (g3 : c ≤ b3) (g4 : c ≤ b4) (g5 : c ≤ b5) (g6 : c ≤ b6) (g7 : c ≤ b7) : a / 549755813888 % 2 = (b4 - c) / 128 := by
  refine bit_of 4294967296 ((1 * b0+256 * b1+65536 * b2+16777216 * b3) - c * 16843009) (b4 - c) ((1 * b5+256 * b6+65536 * b7) - c * 65793) a (by decide) (by omega) (by omega) ?_
  rw [ha, hx]; unfold word
  omega
theorem abit5_ge (b0 b1 b2 b3 b4 b5 b6 b7 c a x : Nat) (h0 : b0 < 256) (h1 : b1 < 256) (h2 : b2 < 256) (h3 : b3 < 256) (h4 : b4 < 256) (h5 : b5 < 256) (h6 : b6 < 256) (h7 : b7 < 256) (hx : x = word b0 b1 b2 b3 b4 b5 b6 b7) (hc : c ≤ 32) (ha : a = (x + 18446744073709551616 - c * 72340172838076673) % 18446744073709551616) (g0 : c ≤ b0) (g1 : c ≤ b1) (g2 : c ≤ b2) (g3 : c ≤ b3) (g4 : c ≤ b4) (g5 : c ≤ b5) (g6 : c ≤ b6) (g7 : c ≤ b7) : a / 140737488355328 % 2 = (b5 - c) / 128 := by
  refine bit_of 1099511627776 ((1 * b0+256 * b1+65536 * b2+16777216 * b3+4294967296 * b4) - c * 4311810305) (b5 - c) ((1 * b6+256 * b7) - c * 257) a (by decide) (by omega) (by omega) ?_
  rw [ha, hx]; unfold word
  omega
theorem abit6_ge (b0 b1 b2 b3 b4 b5 b6 b7 c a x : Nat) (h0 : b0 < 256) (h1 : b1 < 256) (h2 : b2 < 256) (h3 : b3 < 256) (h4 : b4 < 256) (h5 : b5 < 256) (h6 : b6 < 256) (h7 : b7 < 256) (hx : x = word b0 b1 b2 b3 b4 b5 b6 b7) (hc : c ≤ 32) (ha : a = (x + 18446744073709551616 - c * 72340172838076673) % 18446744073709551616) (g0 : c ≤ b0) (g1 : c ≤ b1) (g2 : c ≤ b2) (g3 : c ≤ b3) (g4 : c ≤ b4) (g5 : c ≤ b5) (g6 : c ≤ b6) (g7 : c ≤ b7) : a / 36028797018963968 % 2 = (b6 - c) / 128 := by
  refine bit_of 281474976710656 ((1 * b0+256 * b1+65536 * b2+16777216 * b3+4294967296 * b4+1099511627776 * b5) - c * 1103823438081) (b6 - c) ((1 * b7) - c * 1) a (by decide) (by omega) (by omega) ?_
  rw [ha, hx]; unfold word
  omega
theorem abit7_ge (b0 b1 b2 b3 b4 b5 b6 b7 c a x : Nat) (h0 : b0 < 256) (h1 : b1 < 256) (h2 : b2 < 256) (h3 : b3 < 256) (h4 : b4 < 256) (h5 : b5 < 256) (h6 : b6 < 256) (h7 : b7 < 256) (hx : x = word b0 b1 b2 b3 b4 b5 b6 b7) (hc : c ≤ 32) (ha : a = (x + 18446744073709551616 - c * 72340172838076673) % 18446744073709551616) (g0 : c ≤ b0) (g1 : c ≤ b1) (g2 : c ≤ b2) (g3 : c ≤ b3) (g4 : c ≤ b4) (g5 : c ≤ b5) (g6 : c ≤ b6) (g7 : c ≤ b7) : a / 9223372036854775808 % 2 = (b7 - c) / 128 := by
  refine bit_of 72057594037927936 ((1 * b0+256 * b1+65536 * b2+16777216 * b3+4294967296 * b4+1099511627776 * b5+281474976710656 * b6) - c * 282578800148737) (b7 - c) ((0) - c * 0) a (by decide) (by omega) (by omega) ?_
  rw [ha, hx]; unfold word
  omega
theorem fin_lt (c b xa ya : Nat) (x : xa = b / 128) (y : ya = 1) (g : b < c) (hc : c ≤ 32) (t : ya = 0 ∨ xa = 1) : False := by
  rcases t with t | t <;> omega
theorem fin_ge (c b xa ya : Nat) (x : xa = b / 128) (y : ya = (b - c) / 128) (hb : b < 256) : ya = 0 ∨ xa = 1 := by
  by_cases h : b < 128
  · exact .inl (by omega)
  · exact .inr (by omega)
theorem below_iff (b0 b1 b2 b3 b4 b5 b6 b7 c a x : Nat) (h0 : b0 < 256) (h1 : b1 < 256) (h2 : b2 < 256) (h3 : b3 < 256) (h4 : b4 < 256) (h5 : b5 < 256) (h6 : b6 < 256) (h7 : b7 < 256)
    (hc0 : 1 ≤ c) (hc : c ≤ 32) (hx : x = word b0 b1 b2 b3 b4 b5 b6 b7) (ha : a = (x + 18446744073709551616 - c * 72340172838076673) % 18446744073709551616) :
    ((a &&& (18446744073709551615 - x)) &&& highs = 0) ↔ (c ≤ b0 ∧ c ≤ b1 ∧ c ≤ b2 ∧ c ≤ b3 ∧ c ≤ b4 ∧ c ≤ b5 ∧ c ≤ b6 ∧ c ≤ b7) := by
  have hx' : x < 18446744073709551616 := by rw [hx]; unfold word; omega
  rw [and_highs]
  rw [andnot_bit a x 7 (by omega) hx', andnot_bit a x 15 (by omega) hx', andnot_bit a x 23 (by omega) hx', andnot_bit a x 31 (by omega) hx',
    andnot_bit a x 39 (by omega) hx', andnot_bit a x 47 (by omega) hx', andnot_bit a x 55 (by omega) hx', andnot_bit a x 63 (by omega) hx']
  simp only [Nat.reducePow]
  have x0 := xbit0 b0 b1 b2 b3 b4 b5 b6 b7 x h0 h1 h2 h3 h4 h5 h6 h7 hx
  have x1 := xbit1 b0 b1 b2 b3 b4 b5 b6 b7 x h0 h1 h2 h3 h4 h5 h6 h7 hx
  have x2 := xbit2 b0 b1 b2 b3 b4 b5 b6 b7 x h0 h1 h2 h3 h4 h5 h6 h7 hx
  have x3 := xbit3 b0 b1 b2 b3 b4 b5 b6 b7 x h0 h1 h2 h3 h4 h5 h6 h7 hx
  have x4 := xbit4 b0 b1 b2 b3 b4 b5 b6 b7 x h0 h1 h2 h3 h4 h5 h6 h7 hx
  have x5 := xbit5 b0 b1 b2 b3 b4 b5 b6 b7 x h0 h1 h2 h3 h4 h5 h6 h7 hx
  have x6 := xbit6 b0 b1 b2 b3 b4 b5 b6 b7 x h0 h1 h2 h3 h4 h5 h6 h7 hx
  have x7 := xbit7 b0 b1 b2 b3 b4 b5 b6 b7 x h0 h1 h2 h3 h4 h5 h6 h7 hx
  constructor
  · rintro ⟨t0, t1, t2, t3, t4, t5, t6, t7⟩
    have g0 : c ≤ b0 := by
      refine Nat.le_of_not_lt fun gk => ?_
      have y := abit0_lt b0 b1 b2 b3 b4 b5 b6 b7 c a x h0 h1 h2 h3 h4 h5 h6 h7 hx hc ha  gk
      exact fin_lt c b0 _ _ x0 y gk hc t0
    have g1 : c ≤ b1 := by
      refine Nat.le_of_not_lt fun gk => ?_
      have y := abit1_lt b0 b1 b2 b3 b4 b5 b6 b7 c a x h0 h1 h2 h3 h4 h5 h6 h7 hx hc ha g0 gk
      exact fin_lt c b1 _ _ x1 y gk hc t1
    have g2 : c ≤ b2 := by
      refine Nat.le_of_not_lt fun gk => ?_
      have y := abit2_lt b0 b1 b2 b3 b4 b5 b6 b7 c a x h0 h1 h2 h3 h4 h5 h6 h7 hx hc ha g0 g1 gk
      exact fin_lt c b2 _ _ x2 y gk hc t2
    have g3 : c ≤ b3 := by
      refine Nat.le_of_not_lt fun gk => ?_
      have y := abit3_lt b0 b1 b2 b3 b4 b5 b6 b7 c a x h0 h1 h2 h3 h4 h5 h6 h7 hx hc ha g0 g1 g2 gk
      exact fin_lt c b3 _ _ x3 y gk hc t3
    have g4 : c ≤ b4 := by
      refine Nat.le_of_not_lt fun gk => ?_
      have y := abit4_lt b0 b1 b2 b3 b4 b5 b6 b7 c a x h0 h1 h2 h3 h4 h5 h6 h7 hx hc ha g0 g1 g2 g3 gk
      exact fin_lt c b4 _ _ x4 y gk hc t4
    have g5 : c ≤ b5 := by
      refine Nat.le_of_not_lt fun gk => ?_
      have y := abit5_lt b0 b1 b2 b3 b4 b5 b6 b7 c a x h0 h1 h2 h3 h4 h5 h6 h7 hx hc ha g0 g1 g2 g3 g4 gk
      exact fin_lt c b5 _ _ x5 y gk hc t5
    have g6 : c ≤ b6 := by
      refine Nat.le_of_not_lt fun gk => ?_
      have y := abit6_lt b0 b1 b2 b3 b4 b5 b6 b7 c a x h0 h1 h2 h3 h4 h5 h6 h7 hx hc ha g0 g1 g2 g3 g4 g5 gk
      exact fin_lt c b6 _ _ x6 y gk hc t6
    have g7 : c ≤ b7 := by
      refine Nat.le_of_not_lt fun gk => ?_
      have y := abit7_lt b0 b1 b2 b3 b4 b5 b6 b7 c a x h0 h1 h2 h3 h4 h5 h6 h7 hx hc ha g0 g1 g2 g3 g4 g5 g6 gk
      exact fin_lt c b7 _ _ x7 y gk hc t7
    exact ⟨g0, g1, g2, g3, g4, g5, g6, g7⟩
  · rintro ⟨g0, g1, g2, g3, g4, g5, g6, g7⟩
    have y0 := abit0_ge b0 b1 b2 b3 b4 b5 b6 b7 c a x h0 h1 h2 h3 h4 h5 h6 h7 hx hc ha g0 g1 g2 g3 g4 g5 g6 g7
    have y1 := abit1_ge b0 b1 b2 b3 b4 b5 b6 b7 c a x h0 h1 h2 h3 h4 h5 h6 h7 hx hc ha g0 g1 g2 g3 g4 g5 g6 g7
    have y2 := abit2_ge b0 b1 b2 b3 b4 b5 b6 b7 c a x h0 h1 h2 h3 h4 h5 h6 h7 hx hc ha g0 g1 g2 g3 g4 g5 g6 g7
    have y3 := abit3_ge b0 b1 b2 b3 b4 b5 b6 b7 c a x h0 h1 h2 h3 h4 h5 h6 h7 hx hc ha g0 g1 g2 g3 g4 g5 g6 g7
    have y4 := abit4_ge b0 b1 b2 b3 b4 b5 b6 b7 c a x h0 h1 h2 h3 h4 h5 h6 h7 hx hc ha g0 g1 g2 g3 g4 g5 g6 g7
    have y5 := abit5_ge b0 b1 b2 b3 b4 b5 b6 b7 c a x h0 h1 h2 h3 h4 h5 h6 h7 hx hc ha g0 g1 g2 g3 g4 g5 g6 g7
    have y6 := abit6_ge b0 b1 b2 b3 b4 b5 b6 b7 c a x h0 h1 h2 h3 h4 h5 h6 h7 hx hc ha g0 g1 g2 g3 g4 g5 g6 g7
    have y7 := abit7_ge b0 b1 b2 b3 b4 b5 b6 b7 c a x h0 h1 h2 h3 h4 h5 h6 h7 hx hc ha g0 g1 g2 g3 g4 g5 g6 g7
    clear hx ha
    have z0 : a / 128 % 2 = 0 ∨ x / 128 % 2 = 1 := fin_ge c b0 _ _ x0 y0 h0
    have z1 : a / 32768 % 2 = 0 ∨ x / 32768 % 2 = 1 := fin_ge c b1 _ _ x1 y1 h1
    have z2 : a / 8388608 % 2 = 0 ∨ x / 8388608 % 2 = 1 := fin_ge c b2 _ _ x2 y2 h2
    have z3 : a / 2147483648 % 2 = 0 ∨ x / 2147483648 % 2 = 1 := fin_ge c b3 _ _ x3 y3 h3
    have z4 : a / 549755813888 % 2 = 0 ∨ x / 549755813888 % 2 = 1 := fin_ge c b4 _ _ x4 y4 h4
    have z5 : a / 140737488355328 % 2 = 0 ∨ x / 140737488355328 % 2 = 1 := fin_ge c b5 _ _ x5 y5 h5
    have z6 : a / 36028797018963968 % 2 = 0 ∨ x / 36028797018963968 % 2 = 1 := fin_ge c b6 _ _ x6 y6 h6
    have z7 : a / 9223372036854775808 % 2 = 0 ∨ x / 9223372036854775808 % 2 = 1 := fin_ge c b7 _ _ x7 y7 h7
    exact ⟨z0, z1, z2, z3, z4, z5, z6, z7⟩

/-- A word is the word of its bytes. -/
theorem word_bytes (x : Nat) (hx : x < 18446744073709551616) : x = word (byt x 0) (byt x 1) (byt x 2) (byt x 3) (byt x 4) (byt x 5) (byt x 6) (byt x 7) := by
  simp only [word, byt, Nat.reduceMul, Nat.reducePow]; omega
theorem byt_lt (x i : Nat) : byt x i < 256 := Nat.mod_lt _ (by decide)
theorem byt_xor (x y i : Nat) : byt (x ^^^ y) i = byt x i ^^^ byt y i := by
  unfold byt
  rw [Nat.xor_div_two_pow]
  exact Nat.xor_mod_two_pow (n := 8)

/-- A byte that stands for itself. -/
def plain (b : Nat) : Prop := 32 ≤ b ∧ b ≠ 34 ∧ b ≠ 92

theorem term_iff (x c a : Nat) (hx : x < 18446744073709551616) (hc0 : 1 ≤ c) (hc : c ≤ 32) (ha : a = (x + 18446744073709551616 - c * 72340172838076673) % 18446744073709551616) :
    ((a &&& (18446744073709551615 - x)) &&& highs = 0) ↔ ∀ i, i < 8 → c ≤ byt x i := by
  have h := below_iff (byt x 0) (byt x 1) (byt x 2) (byt x 3) (byt x 4) (byt x 5) (byt x 6) (byt x 7) c a x (byt_lt _ _) (byt_lt _ _) (byt_lt _ _) (byt_lt _ _) (byt_lt _ _) (byt_lt _ _) (byt_lt _ _) (byt_lt _ _) hc0 hc (word_bytes x hx) ha
  rw [h]
  constructor
  · rintro ⟨t0, t1, t2, t3, t4, t5, t6, t7⟩ i hi
    match i, hi with
    | 0, _ => exact t0
    | 1, _ => exact t1
    | 2, _ => exact t2
    | 3, _ => exact t3
    | 4, _ => exact t4
    | 5, _ => exact t5
    | 6, _ => exact t6
    | 7, _ => exact t7
  · intro t
    exact ⟨t 0 (by decide), t 1 (by decide), t 2 (by decide), t 3 (by decide), t 4 (by decide), t 5 (by decide), t 6 (by decide), t 7 (by decide)⟩

theorem xor_zero_iff (a b : Nat) : a ^^^ b = 0 ↔ a = b := by
  constructor
  · intro h
    have e : (a ^^^ b) ^^^ b = a := by rw [Nat.xor_assoc, Nat.xor_self, Nat.xor_zero]
    rw [h, Nat.zero_xor] at e
    exact e.symm
  · rintro rfl; exact Nat.xor_self _
theorem xor_iff (x y b : Nat) (i : Nat) (hi : byt y i = b) : 1 ≤ byt (x ^^^ y) i ↔ byt x i ≠ b := by
  rw [byt_xor, hi]
  have h : byt x i ^^^ b = 0 ↔ byt x i = b := xor_zero_iff _ _
  omega

/-- The law: the three terms under the high bits are nought just when every byte stands for itself. -/
theorem law (x : Nat) (hx : x < 18446744073709551616) :
    (((((x + 18446744073709551616 - 2314885530818453536) % 18446744073709551616 &&& (18446744073709551615 - x)) |||
      (((x ^^^ 2459565876494606882) + 18446744073709551616 - 72340172838076673) % 18446744073709551616 &&& (18446744073709551615 - (x ^^^ 2459565876494606882)))) |||
      (((x ^^^ 6655295901103053916) + 18446744073709551616 - 72340172838076673) % 18446744073709551616 &&& (18446744073709551615 - (x ^^^ 6655295901103053916)))) &&& 9259542123273814144 = 0) ↔
    ∀ i, i < 8 → plain (byt x i) := by
  have e : (9259542123273814144 : Nat) = highs := rfl
  have q1 : x ^^^ 2459565876494606882 < 18446744073709551616 := Nat.xor_lt_two_pow (n := 64) (by omega) (by decide)
  have q2 : x ^^^ 6655295901103053916 < 18446744073709551616 := Nat.xor_lt_two_pow (n := 64) (by omega) (by decide)
  rw [e, Nat.and_or_distrib_right, Nat.and_or_distrib_right, Nat.or_eq_zero_iff, Nat.or_eq_zero_iff]
  have r1 := term_iff x 32 ((x + 18446744073709551616 - 2314885530818453536) % 18446744073709551616) hx (by decide) (by decide) (by simp only [Nat.reduceMul])
  have r2 := term_iff (x ^^^ 2459565876494606882) 1 (((x ^^^ 2459565876494606882) + 18446744073709551616 - 72340172838076673) % 18446744073709551616) q1 (by decide) (by decide) (by simp only [Nat.reduceMul])
  have r3 := term_iff (x ^^^ 6655295901103053916) 1 (((x ^^^ 6655295901103053916) + 18446744073709551616 - 72340172838076673) % 18446744073709551616) q2 (by decide) (by decide) (by simp only [Nat.reduceMul])
  rw [r1, r2, r3]
  have k1 : ∀ i, i < 8 → byt 2459565876494606882 i = 34 := by decide +kernel
  have k2 : ∀ i, i < 8 → byt 6655295901103053916 i = 92 := by decide +kernel
  constructor
  · rintro ⟨⟨t1, t2⟩, t3⟩ i hi
    exact ⟨t1 i hi, (xor_iff x _ 34 i (k1 i hi)).1 (t2 i hi), (xor_iff x _ 92 i (k2 i hi)).1 (t3 i hi)⟩
  · intro t
    exact ⟨⟨fun i hi => (t i hi).1, fun i hi => (xor_iff x _ 34 i (k1 i hi)).2 (t i hi).2.1⟩, fun i hi => (xor_iff x _ 92 i (k2 i hi)).2 (t i hi).2.2⟩

end Go.Proofs.Qxb6600090a.P8
