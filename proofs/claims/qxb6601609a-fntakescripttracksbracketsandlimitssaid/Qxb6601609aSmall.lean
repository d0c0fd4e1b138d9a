import Derived.Test.Qxb6601609aLeaves
namespace Go.Proofs.Qxb6601609a
open Go.RowKit
set_option linter.unusedVariables false

/-- A test of lengths: some Bool, and nothing is turned. -/
def ZB (w : World) (e : Ending) (w' : World) : Prop := ∃ B : Bool, e = .returned (.bool B) ∧ w' = w

set_option maxHeartbeats 800000 in
theorem zzB21_any (a b c : Option Addr) (n1 c1 n2 c2 n3 c3 : Nat) (x1 x2 x3 x4 x5 x6 x7 : Value) (w : World) :
    Calls Try.prog 21 #[.slice a n1 c1, .slice b n2 c2, .slice c n3 c3, x1, x2, x3, x4, x5, x6, x7] w (ZB w) := by
  by_cases h1 : n1 ≤ 1048576
  · by_cases h2 : n2 ≤ 1048576
    · by_cases h3 : n1 + n2 ≤ 1048576
      · by_cases h4 : n3 ≤ 1048576
        · by_cases h5 : n1 + n2 + n3 ≤ 1048576
          · go_enter Try.func21, Try.ntmps21
            go_wp2_with fail
            go_ret
            exact ⟨_, rfl, rfl⟩
          · go_enter Try.func21, Try.ntmps21
            go_wp2_with fail
            go_ret
            exact ⟨_, rfl, rfl⟩
        · go_enter Try.func21, Try.ntmps21
          go_wp2_with fail
          go_ret
          exact ⟨_, rfl, rfl⟩
      · go_enter Try.func21, Try.ntmps21
        go_wp2_with fail
        go_ret
        exact ⟨_, rfl, rfl⟩
    · go_enter Try.func21, Try.ntmps21
      go_wp2_with fail
      go_ret
      exact ⟨_, rfl, rfl⟩
  · go_enter Try.func21, Try.ntmps21
    go_wp2_with fail
    go_ret
    exact ⟨_, rfl, rfl⟩

set_option maxHeartbeats 800000 in
theorem zzB15_any (a b : Option Addr) (n1 c1 n2 c2 : Nat) (w : World) :
    Calls Try.prog 15 #[.slice a n1 c1, .slice b n2 c2] w (ZB w) := by
  by_cases h1 : n1 ≤ 1048576
  · by_cases h2 : n2 ≤ 1048576
    · by_cases h3 : n1 + n2 ≤ 1048576
      · go_enter Try.func15, Try.ntmps15
        go_wp2_with fail
        go_ret
        exact ⟨_, rfl, rfl⟩
      · go_enter Try.func15, Try.ntmps15
        go_wp2_with fail
        go_ret
        exact ⟨_, rfl, rfl⟩
    · go_enter Try.func15, Try.ntmps15
      go_wp2_with fail
      go_ret
      exact ⟨_, rfl, rfl⟩
  · go_enter Try.func15, Try.ntmps15
    go_wp2_with fail
    go_ret
    exact ⟨_, rfl, rfl⟩

set_option maxHeartbeats 1600000 in
theorem stackPrefix_yes (tc tb ca ba : Option Addr) (M N c1 c2 c3 c4 : Nat) (cl : Nat → Nat) (bd : Nat → Bool) (w : World) (hM : M ≤ N) (hN : N ≤ 8192)
    (h1 : Rd w tc M (fun i => .int .u8 (cl i))) (h2 : Rd w tb M (fun i => .bool (bd i))) (h3 : Rd w ca N (fun i => .int .u8 (cl i))) (h4 : Rd w ba N (fun i => .bool (bd i))) :
    Calls Try.prog 23 #[.slice tc M c1, .slice tb M c2, .slice ca N c3, .slice ba N c4, .int .i64 M] w fun e w' => e = .returned (.bool true) ∧ ∃ d, w' = w.drewN d := by
  have q1 : decide ((M : Int) < (M : Int)) = false := decide_eq_false (by omega)
  have q2 : decide ((N : Int) < (M : Int)) = false := decide_eq_false (by omega)
  go_enter Try.func23, Try.ntmps23
  go_wp2_with fail
  go_loopw [11] (fun t wr => ∃ k d : Nat, t = .int .i64 k ∧ k ≤ M ∧ wr = w.drewN d) (fun t _ => M - (intOf t).toNat)
  case atStart => exact ⟨0, 0, rfl, by omega, rfl⟩
  case round =>
    obtain ⟨k, d, rfl, hk, rfl⟩ := hrel
    by_cases hlt : k < M
    · obtain ⟨b1, o1, rfl, _, x1⟩ := h1.at_ (by omega)
      obtain ⟨b2, o2, rfl, _, x2⟩ := h2.at_ (by omega)
      obtain ⟨b3, o3, rfl, _, x3⟩ := h3.at_ (by omega)
      obtain ⟨b4, o4, rfl, _, x4⟩ := h4.at_ (by omega)
      have y1 := x1 k hlt
      have y2 := x2 k hlt
      have y3 := x3 k (by omega)
      have y4 := x4 k (by omega)
      have g0 : (0 : Int) ≤ (k : Int) := by omega
      have g1 : (k : Int) < (M : Int) := by omega
      have g2 : (k : Int) < (N : Int) := by omega
      have t1 : ((cl k : Int) != (cl k : Int)) = false := by simp
      have t2 : ((bd k) != (bd k)) = false := by simp
      clear x1 x2 x3 x4
      go_wp2_with fail
      go_quiet (fail)
      go_wp2_with fail
      go_roundw
      case rel => exact ⟨k + 1, d + nq, by go_num, by omega, by simp⟩
      case measure => simp [intOf]; omega
    · go_wp2_with fail
      go_ret
      exact ⟨rfl, d, rfl⟩
end Go.Proofs.Qxb6601609a
