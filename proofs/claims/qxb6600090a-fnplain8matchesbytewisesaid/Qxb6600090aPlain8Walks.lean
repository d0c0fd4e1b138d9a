/-
  THE WALKS OF plain8, ZZplain8 and zzPlainByte. The plain law: Qxb6600090aPlain8.lean.
-/
import Derived.Test.Qxb6600090aRows
import Derived.Test.Qxb6600090aPlain8
import Derived.WalkKit
import Derived.Laws.BitsAllLaws
namespace Go.Proofs.Qxb6600090a
open Go.RowKit

/-- A byte that stands for itself. -/
def plB (b : Nat) : Bool := decide (32 ≤ b ∧ b ≠ 34 ∧ b ≠ 92)
/-- The first k bytes of x stand for themselves. -/
def allB (x k : Nat) : Bool := (List.range k).all fun i => plB (P8.byt x i)

theorem allB_succ (x k : Nat) : allB x (k + 1) = (allB x k && plB (P8.byt x k)) := by
  unfold allB
  rw [List.range_succ, List.all_append]
  simp

theorem allB_iff (x : Nat) : allB x 8 = true ↔ ∀ i, i < 8 → P8.plain (P8.byt x i) := by
  unfold allB
  simp only [List.all_eq_true, List.mem_range, plB, decide_eq_true_eq, P8.plain]

/-- What plain8 computes, as the walk spells it. -/
def p8 (x : Int) : Bool :=
  bits BinOp.and IntKind.u64
    (bits BinOp.or IntKind.u64
      (bits BinOp.or IntKind.u64
        (bits BinOp.andNot IntKind.u64 (IntKind.u64.wrap (x - 2314885530818453536)) x)
        (bits BinOp.andNot IntKind.u64 (IntKind.u64.wrap (bits BinOp.xor IntKind.u64 x 2459565876494606882 - 72340172838076673)) (bits BinOp.xor IntKind.u64 x 2459565876494606882)))
      (bits BinOp.andNot IntKind.u64 (IntKind.u64.wrap (bits BinOp.xor IntKind.u64 x 6655295901103053916 - 72340172838076673)) (bits BinOp.xor IntKind.u64 x 6655295901103053916)))
    9259542123273814144 == 0

theorem wrap_sub (x c : Nat) (_hx : x < 18446744073709551616) (hc : c ≤ 18446744073709551616) : IntKind.u64.wrap ((x : Int) - (c : Int)) = (((x + 18446744073709551616 - c) % 18446744073709551616 : Nat) : Int) := by
  rw [IntKind.wrap_u64]
  omega

theorem core (x A B C Q R : Nat) (hx : x < 18446744073709551616) (a1 : A < 18446744073709551616) (b1 : B < 18446744073709551616) (c1 : C < 18446744073709551616) (q1 : Q < 18446744073709551616) (q2 : R < 18446744073709551616) :
    ((bits BinOp.and IntKind.u64
      (bits BinOp.or IntKind.u64
        (bits BinOp.or IntKind.u64
          (bits BinOp.andNot IntKind.u64 (A : Int) (x : Int))
          (bits BinOp.andNot IntKind.u64 (B : Int) (Q : Int)))
        (bits BinOp.andNot IntKind.u64 (C : Int) (R : Int)))
      9259542123273814144 == 0) = true) ↔
    ((((A &&& (18446744073709551615 - x)) ||| (B &&& (18446744073709551615 - Q))) ||| (C &&& (18446744073709551615 - R))) &&& 9259542123273814144 = 0) := by
  rw [u64_andNot_nat A x a1 hx, u64_andNot_nat B Q b1 q1, u64_andNot_nat C R c1 q2]
  have d1 : A &&& (18446744073709551615 - x) < 18446744073709551616 := Nat.and_lt_two_pow (n := 64) _ (by omega)
  have d2 : B &&& (18446744073709551615 - Q) < 18446744073709551616 := Nat.and_lt_two_pow (n := 64) _ (by omega)
  have d3 : C &&& (18446744073709551615 - R) < 18446744073709551616 := Nat.and_lt_two_pow (n := 64) _ (by omega)
  generalize A &&& (18446744073709551615 - x) = D at *
  generalize B &&& (18446744073709551615 - Q) = E at *
  generalize C &&& (18446744073709551615 - R) = F at *
  have g1 : D ||| E < 18446744073709551616 := Nat.or_lt_two_pow (n := 64) (by omega) (by omega)
  have g2 : D ||| E ||| F < 18446744073709551616 := Nat.or_lt_two_pow (n := 64) (by omega) (by omega)
  rw [u64_or_nat D E d1 d2, u64_or_nat (D ||| E) F g1 d3]
  have e9 : bits BinOp.and IntKind.u64 ((D ||| E ||| F : Nat) : Int) 9259542123273814144 = ((D ||| E ||| F) &&& 9259542123273814144 : Nat) := u64_and_nat _ 9259542123273814144 g2 (by decide)
  rw [e9]
  generalize (D ||| E ||| F) &&& 9259542123273814144 = G
  simp only [beq_iff_eq]
  omega

theorem p8_eq (x : Nat) (hx : x < 18446744073709551616) : p8 (x : Int) = allB x 8 := by
  have q1 : x ^^^ 2459565876494606882 < 18446744073709551616 := Nat.xor_lt_two_pow (n := 64) (by omega) (by decide)
  have q2 : x ^^^ 6655295901103053916 < 18446744073709551616 := Nat.xor_lt_two_pow (n := 64) (by omega) (by decide)
  have l := P8.law x hx
  rw [← allB_iff] at l
  unfold p8
  have e1 : bits BinOp.xor IntKind.u64 (x : Int) 2459565876494606882 = ((x ^^^ 2459565876494606882 : Nat) : Int) := u64_xor_nat x 2459565876494606882 hx (by decide)
  have e2 : bits BinOp.xor IntKind.u64 (x : Int) 6655295901103053916 = ((x ^^^ 6655295901103053916 : Nat) : Int) := u64_xor_nat x 6655295901103053916 hx (by decide)
  have f1 : IntKind.u64.wrap ((x : Int) - 2314885530818453536) = _ := wrap_sub x 2314885530818453536 hx (by decide)
  have f2 : IntKind.u64.wrap (((x ^^^ 2459565876494606882 : Nat) : Int) - 72340172838076673) = _ := wrap_sub _ 72340172838076673 q1 (by decide)
  have f3 : IntKind.u64.wrap (((x ^^^ 6655295901103053916 : Nat) : Int) - 72340172838076673) = _ := wrap_sub _ 72340172838076673 q2 (by decide)
  rw [e1, e2, f1, f2, f3, Bool.eq_iff_iff]
  exact (core x _ _ _ _ _ hx (Nat.mod_lt _ (by decide)) (Nat.mod_lt _ (by decide)) (Nat.mod_lt _ (by decide)) q1 q2).trans l

theorem plain8_any (x : Int) (w : World) (_h0 : 0 ≤ x) (_h1 : x < 18446744073709551616) :
    Calls Try.prog 24 #[.int .u64 x] w fun e w' => e = .returned (.bool (p8 x)) ∧ w' = w := by
  go_enter Try.func24, Try.ntmps24
  go_wp2
  go_ret
  exact ⟨rfl, rfl⟩

theorem zzplain8_any (x : Int) (w : World) (h0 : 0 ≤ x) (h1 : x < 18446744073709551616) :
    Calls Try.prog 11 #[.int .u64 x] w fun e w' => e = .returned (.bool (p8 x)) ∧ w' = w := by
  go_enter Try.func11, Try.ntmps11
  go_wp2_with (go_at_call 24; refine (plain8_any _ _ h0 h1).mono ?_; rintro e w' ⟨rfl, rfl⟩)
  go_ret
  exact ⟨rfl, rfl⟩

theorem ret_bool {a b : Bool} (h : a = b) : Ending.returned (.bool a) = .returned (.bool b) := by rw [h]

theorem plainByte_any (x : Nat) (w : World) (_h1 : x < 256) :
    Calls Try.prog 10 #[.int .u8 x] w fun e w' => e = .returned (.bool (plB x)) ∧ w' = w := by
  by_cases a1 : 32 ≤ x
  · by_cases a2 : x = 34
    · subst a2
      go_enter Try.func10, Try.ntmps10
      go_wp2
      go_ret
      exact ⟨rfl, rfl⟩
    · by_cases a3 : x = 92
      · subst a3
        go_enter Try.func10, Try.ntmps10
        go_wp2
        go_ret
        exact ⟨rfl, rfl⟩
      · have b1 : ((x : Int) != 34) = true := by rw [bne_iff_ne]; omega
        have b2 : ((x : Int) != 92) = true := by rw [bne_iff_ne]; omega
        have e : plB x = true := by simp [plB, a1, a2, a3]
        rw [e]
        clear a2 a3 e
        go_enter Try.func10, Try.ntmps10
        go_wp2
        go_ret
        exact ⟨rfl, rfl⟩
  · have e : plB x = false := by simp [plB, a1]
    rw [e]
    clear e
    go_enter Try.func10, Try.ntmps10
    go_wp2
    go_ret
    exact ⟨rfl, rfl⟩
end Go.Proofs.Qxb6600090a
