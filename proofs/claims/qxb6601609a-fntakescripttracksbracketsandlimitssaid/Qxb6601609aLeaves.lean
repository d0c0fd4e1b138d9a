/-
  THE LEAVES: closerOf, its model, the tests on a byte, sameText.
-/
import Derived.Test.Qxb6601609aClone
namespace Go.Proofs.Qxb6601609a
open Go.RowKit
set_option linter.unusedVariables false

/-- The closer of an opener, else 0. -/
def cof (c : Nat) : Nat := if c = 123 then 125 else if c = 91 then 93 else if c = 40 then 41 else if c = 60 then 62 else 0
def Closer (c : Nat) : Prop := c = 125 ∨ c = 93 ∨ c = 41 ∨ c = 62
def Word (c : Nat) : Prop := (97 ≤ c ∧ c ≤ 122) ∨ (65 ≤ c ∧ c ≤ 90) ∨ c = 95

theorem eqf {c k : Nat} (h : c ≠ k) : ((c : Int) == (k : Int)) = false := by simp; omega
theorem eqt {c k : Nat} (h : c = k) : ((c : Int) == (k : Int)) = true := by simp; omega
theorem eqf' {c k : Nat} (h : c ≠ k) : ((k : Int) == (c : Int)) = false := by simp; omega

theorem closerOf_any (c : Nat) (w : World) : Calls Try.prog 27 #[.int .u8 c] w fun e w' => e = .returned (.int .u8 (cof c)) ∧ w' = w := by
  unfold cof
  by_cases h : c = 123 ∨ c = 91 ∨ c = 40 ∨ c = 60
  · rcases h with rfl | rfl | rfl | rfl
    all_goals
      go_enter Try.func27, Try.ntmps27
      go_wp2
      go_ret
      exact ⟨rfl, rfl⟩
  · rw [if_neg (by omega), if_neg (by omega), if_neg (by omega), if_neg (by omega)]
    have b1 : ((c : Int) == 123) = false := eqf (k := 123) (by omega)
    have b2 : ((c : Int) == 91) = false := eqf (k := 91) (by omega)
    have b3 : ((c : Int) == 40) = false := eqf (k := 40) (by omega)
    have b4 : ((c : Int) == 60) = false := eqf (k := 60) (by omega)
    clear h
    go_enter Try.func27, Try.ntmps27
    go_wp2
    go_ret
    exact ⟨rfl, rfl⟩

theorem word_yes (c : Nat) (w : World) (h : Word c) : Calls Try.prog 33 #[.int .u8 c] w fun e w' => e = .returned (.bool true) ∧ w' = w := by
  unfold Word at h
  rcases h with ⟨h1, h2⟩ | ⟨h1, h2⟩ | rfl
  · have d1 : decide ((c : Int) ≤ 122) = true := decide_eq_true (by omega)
    go_enter Try.func33, Try.ntmps33
    go_wp2
    go_ret
    exact ⟨rfl, rfl⟩
  · have d0 : decide ((97 : Int) ≤ (c : Int)) = false := decide_eq_false (by omega)
    have d1 : decide ((c : Int) ≤ 90) = true := decide_eq_true (by omega)
    go_enter Try.func33, Try.ntmps33
    go_wp2
    go_ret
    exact ⟨rfl, rfl⟩
  · go_enter Try.func33, Try.ntmps33
    go_wp2
    go_ret
    exact ⟨rfl, rfl⟩
theorem word_no (c : Nat) (w : World) (h : ¬ Word c) : Calls Try.prog 33 #[.int .u8 c] w fun e w' => e = .returned (.bool false) ∧ w' = w := by
  unfold Word at h
  have b1 : ((c : Int) == 95) = false := eqf (k := 95) (by omega)
  rcases (show c < 65 ∨ (90 < c ∧ c < 97) ∨ 122 < c by omega) with h1 | ⟨h1, h2⟩ | h1
  · have d0 : decide ((97 : Int) ≤ (c : Int)) = false := decide_eq_false (by omega)
    have d1 : decide ((65 : Int) ≤ (c : Int)) = false := decide_eq_false (by omega)
    clear h
    go_enter Try.func33, Try.ntmps33
    go_wp2
    go_ret
    exact ⟨rfl, rfl⟩
  · have d0 : decide ((97 : Int) ≤ (c : Int)) = false := decide_eq_false (by omega)
    have d1 : decide ((c : Int) ≤ 90) = false := decide_eq_false (by omega)
    clear h
    go_enter Try.func33, Try.ntmps33
    go_wp2
    go_ret
    exact ⟨rfl, rfl⟩
  · have d0 : decide ((c : Int) ≤ 122) = false := decide_eq_false (by omega)
    have d1 : decide ((c : Int) ≤ 90) = false := decide_eq_false (by omega)
    clear h
    go_enter Try.func33, Try.ntmps33
    go_wp2
    go_ret
    exact ⟨rfl, rfl⟩

theorem name_yes (c : Nat) (w : World) (h : Word c) : Calls Try.prog 25 #[.int .u8 c] w fun e w' => e = .returned (.bool true) ∧ w' = w := by
  unfold Word at h
  rcases h with ⟨h1, h2⟩ | ⟨h1, h2⟩ | rfl
  · have d1 : decide ((c : Int) ≤ 122) = true := decide_eq_true (by omega)
    go_enter Try.func25, Try.ntmps25
    go_wp2
    go_ret
    exact ⟨rfl, rfl⟩
  · have d0 : decide ((97 : Int) ≤ (c : Int)) = false := decide_eq_false (by omega)
    have d1 : decide ((c : Int) ≤ 90) = true := decide_eq_true (by omega)
    go_enter Try.func25, Try.ntmps25
    go_wp2
    go_ret
    exact ⟨rfl, rfl⟩
  · go_enter Try.func25, Try.ntmps25
    go_wp2
    go_ret
    exact ⟨rfl, rfl⟩
theorem name_no (c : Nat) (w : World) (h : ¬ Word c) : Calls Try.prog 25 #[.int .u8 c] w fun e w' => e = .returned (.bool false) ∧ w' = w := by
  unfold Word at h
  have b1 : ((c : Int) == 95) = false := eqf (k := 95) (by omega)
  rcases (show c < 65 ∨ (90 < c ∧ c < 97) ∨ 122 < c by omega) with h1 | ⟨h1, h2⟩ | h1
  · have d0 : decide ((97 : Int) ≤ (c : Int)) = false := decide_eq_false (by omega)
    have d1 : decide ((65 : Int) ≤ (c : Int)) = false := decide_eq_false (by omega)
    clear h
    go_enter Try.func25, Try.ntmps25
    go_wp2
    go_ret
    exact ⟨rfl, rfl⟩
  · have d0 : decide ((97 : Int) ≤ (c : Int)) = false := decide_eq_false (by omega)
    have d1 : decide ((c : Int) ≤ 90) = false := decide_eq_false (by omega)
    clear h
    go_enter Try.func25, Try.ntmps25
    go_wp2
    go_ret
    exact ⟨rfl, rfl⟩
  · have d0 : decide ((c : Int) ≤ 122) = false := decide_eq_false (by omega)
    have d1 : decide ((c : Int) ≤ 90) = false := decide_eq_false (by omega)
    clear h
    go_enter Try.func25, Try.ntmps25
    go_wp2
    go_ret
    exact ⟨rfl, rfl⟩

theorem ix (k : Nat) (h : k < 8) (w : World) : (Instr.index 9 (.string ⟨#[123, 125, 91, 93, 40, 41, 60, 62]⟩) (.int .i64 (k : Int))).run Try.prog w = .ok (.int .u8 ((#[123, 125, 91, 93, 40, 41, 60, 62] : Array Nat).getD k 0 : Nat)) w := by
  rcases (show k = 0 ∨ k = 1 ∨ k = 2 ∨ k = 3 ∨ k = 4 ∨ k = 5 ∨ k = 6 ∨ k = 7 by omega) with rfl | rfl | rfl | rfl | rfl | rfl | rfl | rfl
  all_goals kernel_rfl

set_option maxHeartbeats 800000 in
theorem modelCloser_any (c : Nat) (w : World) : Calls Try.prog 17 #[.int .u8 c] w fun e w' => e = .returned (.int .u8 (cof c)) ∧ w' = w := by
  have x0 : ∀ wx, (Instr.index 9 (.string ⟨#[123, 125, 91, 93, 40, 41, 60, 62]⟩) (.int .i64 0)).run Try.prog wx = .ok (.int .u8 123) wx := ix 0 (by omega)
  have x1 : ∀ wx, (Instr.index 9 (.string ⟨#[123, 125, 91, 93, 40, 41, 60, 62]⟩) (.int .i64 1)).run Try.prog wx = .ok (.int .u8 125) wx := ix 1 (by omega)
  have x2 : ∀ wx, (Instr.index 9 (.string ⟨#[123, 125, 91, 93, 40, 41, 60, 62]⟩) (.int .i64 2)).run Try.prog wx = .ok (.int .u8 91) wx := ix 2 (by omega)
  have x3 : ∀ wx, (Instr.index 9 (.string ⟨#[123, 125, 91, 93, 40, 41, 60, 62]⟩) (.int .i64 3)).run Try.prog wx = .ok (.int .u8 93) wx := ix 3 (by omega)
  have x4 : ∀ wx, (Instr.index 9 (.string ⟨#[123, 125, 91, 93, 40, 41, 60, 62]⟩) (.int .i64 4)).run Try.prog wx = .ok (.int .u8 40) wx := ix 4 (by omega)
  have x5 : ∀ wx, (Instr.index 9 (.string ⟨#[123, 125, 91, 93, 40, 41, 60, 62]⟩) (.int .i64 5)).run Try.prog wx = .ok (.int .u8 41) wx := ix 5 (by omega)
  have x6 : ∀ wx, (Instr.index 9 (.string ⟨#[123, 125, 91, 93, 40, 41, 60, 62]⟩) (.int .i64 6)).run Try.prog wx = .ok (.int .u8 60) wx := ix 6 (by omega)
  have x7 : ∀ wx, (Instr.index 9 (.string ⟨#[123, 125, 91, 93, 40, 41, 60, 62]⟩) (.int .i64 7)).run Try.prog wx = .ok (.int .u8 62) wx := ix 7 (by omega)
  go_enter Try.func17, Try.ntmps17
  go_wp2
  go_loop [3] (fun t => ∃ k : Nat, k ≤ 4 ∧ t = .int .i64 (2 * (k : Int)) ∧ (1 ≤ k → c ≠ 123) ∧ (2 ≤ k → c ≠ 91) ∧ (3 ≤ k → c ≠ 40) ∧ (4 ≤ k → c ≠ 60)) (fun t => (10 - intOf t).toNat)
  case atStart => exact ⟨0, by omega, rfl, fun h => absurd h (by omega), fun h => absurd h (by omega), fun h => absurd h (by omega), fun h => absurd h (by omega)⟩
  case round =>
    obtain ⟨k, hk, rfl, n1, n2, n3, n4⟩ := hrel
    rcases (show k = 0 ∨ k = 1 ∨ k = 2 ∨ k = 3 ∨ k = 4 by omega) with rfl | rfl | rfl | rfl | rfl
    · by_cases h : c = 123
      · subst h
        clear n1 n2 n3 n4
        go_wp2
        go_ret
        exact ⟨rfl, rfl⟩
      · have bb : ((123 : Int) == (c : Int)) = false := eqf' (k := 123) h
        have H : Hid (c ≠ 123) := h
        have N1 : Hid (1 ≤ 0 → c ≠ 123) := n1
        have N2 : Hid (2 ≤ 0 → c ≠ 91) := n2
        have N3 : Hid (3 ≤ 0 → c ≠ 40) := n3
        clear h n1 n2 n3 n4
        go_wp2
        go_round
        case rel => exact ⟨1, by omega, by go_num, fun _ => H.out, fun h => absurd h (by omega), fun h => absurd h (by omega), fun h => absurd h (by omega)⟩
        case measure => simp [intOf]
    · by_cases h : c = 91
      · subst h
        clear n1 n2 n3 n4
        go_wp2
        go_ret
        exact ⟨rfl, rfl⟩
      · have bb : ((91 : Int) == (c : Int)) = false := eqf' (k := 91) h
        have H : Hid (c ≠ 91) := h
        have N1 : Hid (1 ≤ 1 → c ≠ 123) := n1
        have N2 : Hid (2 ≤ 1 → c ≠ 91) := n2
        have N3 : Hid (3 ≤ 1 → c ≠ 40) := n3
        clear h n1 n2 n3 n4
        go_wp2
        go_round
        case rel => exact ⟨2, by omega, by go_num, fun _ => N1.out (by omega), fun _ => H.out, fun h => absurd h (by omega), fun h => absurd h (by omega)⟩
        case measure => simp [intOf]
    · by_cases h : c = 40
      · subst h
        clear n1 n2 n3 n4
        go_wp2
        go_ret
        exact ⟨rfl, rfl⟩
      · have bb : ((40 : Int) == (c : Int)) = false := eqf' (k := 40) h
        have H : Hid (c ≠ 40) := h
        have N1 : Hid (1 ≤ 2 → c ≠ 123) := n1
        have N2 : Hid (2 ≤ 2 → c ≠ 91) := n2
        have N3 : Hid (3 ≤ 2 → c ≠ 40) := n3
        clear h n1 n2 n3 n4
        go_wp2
        go_round
        case rel => exact ⟨3, by omega, by go_num, fun _ => N1.out (by omega), fun _ => N2.out (by omega), fun _ => H.out, fun h => absurd h (by omega)⟩
        case measure => simp [intOf]
    · by_cases h : c = 60
      · subst h
        clear n1 n2 n3 n4
        go_wp2
        go_ret
        exact ⟨rfl, rfl⟩
      · have bb : ((60 : Int) == (c : Int)) = false := eqf' (k := 60) h
        have H : Hid (c ≠ 60) := h
        have N1 : Hid (1 ≤ 3 → c ≠ 123) := n1
        have N2 : Hid (2 ≤ 3 → c ≠ 91) := n2
        have N3 : Hid (3 ≤ 3 → c ≠ 40) := n3
        clear h n1 n2 n3 n4
        go_wp2
        go_round
        case rel => exact ⟨4, by omega, by go_num, fun _ => N1.out (by omega), fun _ => N2.out (by omega), fun _ => N3.out (by omega), fun _ => H.out⟩
        case measure => simp [intOf]
    · have e : cof c = 0 := by
        unfold cof
        rw [if_neg (n1 (by omega)), if_neg (n2 (by omega)), if_neg (n3 (by omega)), if_neg (n4 (by omega))]
      have E : Hid (cof c = 0) := e
      clear n1 n2 n3 n4 e
      go_wp2
      go_ret
      exact ⟨by rw [E.out]; rfl, rfl⟩

set_option maxHeartbeats 800000 in
theorem isCloser_yes (c : Nat) (w : World) (h : Closer c) : Calls Try.prog 20 #[.int .u8 c] w fun e w' => e = .returned (.bool true) ∧ w' = w := by
  have x1 : ∀ wx, (Instr.index 9 (.string ⟨#[123, 125, 91, 93, 40, 41, 60, 62]⟩) (.int .i64 1)).run Try.prog wx = .ok (.int .u8 125) wx := ix 1 (by omega)
  have x3 : ∀ wx, (Instr.index 9 (.string ⟨#[123, 125, 91, 93, 40, 41, 60, 62]⟩) (.int .i64 3)).run Try.prog wx = .ok (.int .u8 93) wx := ix 3 (by omega)
  have x5 : ∀ wx, (Instr.index 9 (.string ⟨#[123, 125, 91, 93, 40, 41, 60, 62]⟩) (.int .i64 5)).run Try.prog wx = .ok (.int .u8 41) wx := ix 5 (by omega)
  have x7 : ∀ wx, (Instr.index 9 (.string ⟨#[123, 125, 91, 93, 40, 41, 60, 62]⟩) (.int .i64 7)).run Try.prog wx = .ok (.int .u8 62) wx := ix 7 (by omega)
  unfold Closer at h
  go_enter Try.func20, Try.ntmps20
  go_wp2
  go_loop [3] (fun t => ∃ k : Nat, k ≤ 3 ∧ t = .int .i64 (1 + 2 * (k : Int)) ∧ (1 ≤ k → c ≠ 125) ∧ (2 ≤ k → c ≠ 93) ∧ (3 ≤ k → c ≠ 41)) (fun t => (10 - intOf t).toNat)
  case atStart => exact ⟨0, by omega, rfl, fun h => absurd h (by omega), fun h => absurd h (by omega), fun h => absurd h (by omega)⟩
  case round =>
    obtain ⟨k, hk, rfl, n1, n2, n3⟩ := hrel
    rcases (show k = 0 ∨ k = 1 ∨ k = 2 ∨ k = 3 by omega) with rfl | rfl | rfl | rfl
    · by_cases hc : c = 125
      · subst hc
        clear n1 n2 n3 h
        go_wp2
        go_ret
        exact ⟨rfl, rfl⟩
      · have bb : ((125 : Int) == (c : Int)) = false := eqf' (k := 125) hc
        have H : Hid (c ≠ 125) := hc
        have N1 : Hid (1 ≤ 0 → c ≠ 125) := n1
        have N2 : Hid (2 ≤ 0 → c ≠ 93) := n2
        have HH : Hid (c = 125 ∨ c = 93 ∨ c = 41 ∨ c = 62) := h
        clear hc n1 n2 n3 h
        go_wp2
        go_round
        case rel => exact ⟨1, by omega, by go_num, fun _ => H.out, fun h => absurd h (by omega), fun h => absurd h (by omega)⟩
        case measure => simp [intOf]
    · by_cases hc : c = 93
      · subst hc
        clear n1 n2 n3 h
        go_wp2
        go_ret
        exact ⟨rfl, rfl⟩
      · have bb : ((93 : Int) == (c : Int)) = false := eqf' (k := 93) hc
        have H : Hid (c ≠ 93) := hc
        have N1 : Hid (1 ≤ 1 → c ≠ 125) := n1
        have N2 : Hid (2 ≤ 1 → c ≠ 93) := n2
        have HH : Hid (c = 125 ∨ c = 93 ∨ c = 41 ∨ c = 62) := h
        clear hc n1 n2 n3 h
        go_wp2
        go_round
        case rel => exact ⟨2, by omega, by go_num, fun _ => N1.out (by omega), fun _ => H.out, fun h => absurd h (by omega)⟩
        case measure => simp [intOf]
    · by_cases hc : c = 41
      · subst hc
        clear n1 n2 n3 h
        go_wp2
        go_ret
        exact ⟨rfl, rfl⟩
      · have bb : ((41 : Int) == (c : Int)) = false := eqf' (k := 41) hc
        have H : Hid (c ≠ 41) := hc
        have N1 : Hid (1 ≤ 2 → c ≠ 125) := n1
        have N2 : Hid (2 ≤ 2 → c ≠ 93) := n2
        have HH : Hid (c = 125 ∨ c = 93 ∨ c = 41 ∨ c = 62) := h
        clear hc n1 n2 n3 h
        go_wp2
        go_round
        case rel => exact ⟨3, by omega, by go_num, fun _ => N1.out (by omega), fun _ => N2.out (by omega), fun _ => H.out⟩
        case measure => simp [intOf]
    · by_cases hc : c = 62
      · subst hc
        clear n1 n2 n3 h
        go_wp2
        go_ret
        exact ⟨rfl, rfl⟩
      · exact absurd h (by have := n1 (by omega); have := n2 (by omega); have := n3 (by omega); omega)

set_option maxHeartbeats 800000 in
theorem isCloser_no (c : Nat) (w : World) (h : ¬ Closer c) : Calls Try.prog 20 #[.int .u8 c] w fun e w' => e = .returned (.bool false) ∧ w' = w := by
  have x1 : ∀ wx, (Instr.index 9 (.string ⟨#[123, 125, 91, 93, 40, 41, 60, 62]⟩) (.int .i64 1)).run Try.prog wx = .ok (.int .u8 125) wx := ix 1 (by omega)
  have x3 : ∀ wx, (Instr.index 9 (.string ⟨#[123, 125, 91, 93, 40, 41, 60, 62]⟩) (.int .i64 3)).run Try.prog wx = .ok (.int .u8 93) wx := ix 3 (by omega)
  have x5 : ∀ wx, (Instr.index 9 (.string ⟨#[123, 125, 91, 93, 40, 41, 60, 62]⟩) (.int .i64 5)).run Try.prog wx = .ok (.int .u8 41) wx := ix 5 (by omega)
  have x7 : ∀ wx, (Instr.index 9 (.string ⟨#[123, 125, 91, 93, 40, 41, 60, 62]⟩) (.int .i64 7)).run Try.prog wx = .ok (.int .u8 62) wx := ix 7 (by omega)
  unfold Closer at h
  have b0 : ((125 : Int) == (c : Int)) = false := eqf' (k := 125) (by omega)
  have b1 : ((93 : Int) == (c : Int)) = false := eqf' (k := 93) (by omega)
  have b2 : ((41 : Int) == (c : Int)) = false := eqf' (k := 41) (by omega)
  have b3 : ((62 : Int) == (c : Int)) = false := eqf' (k := 62) (by omega)
  clear h
  go_enter Try.func20, Try.ntmps20
  go_wp2
  go_loop [3] (fun t => ∃ k : Nat, k ≤ 4 ∧ t = .int .i64 (1 + 2 * (k : Int))) (fun t => (10 - intOf t).toNat)
  case atStart => exact ⟨0, by omega, rfl⟩
  case round =>
    obtain ⟨k, hk, rfl⟩ := hrel
    rcases (show k = 0 ∨ k = 1 ∨ k = 2 ∨ k = 3 ∨ k = 4 by omega) with rfl | rfl | rfl | rfl | rfl
    · go_wp2
      go_round
      case rel => exact ⟨1, by omega, by go_num⟩
      case measure => simp [intOf]
    · go_wp2
      go_round
      case rel => exact ⟨2, by omega, by go_num⟩
      case measure => simp [intOf]
    · go_wp2
      go_round
      case rel => exact ⟨3, by omega, by go_num⟩
      case measure => simp [intOf]
    · go_wp2
      go_round
      case rel => exact ⟨4, by omega, by go_num⟩
      case measure => simp [intOf]
    · go_wp2
      go_ret
      exact ⟨rfl, rfl⟩

/-- The n bytes 'f' lie in block b from 'off' on. -/
structure Has (w : World) (b off n : Nat) (f : Nat → Nat) : Prop where
  cell : ∀ i, i < n → w.cell? ⟨b, off + i, none⟩ = some (.int .u8 (f i))

def TextIs (f : Nat → Nat) (n : Nat) (s : ByteArray) : Prop := n = s.size ∧ ∀ k (hk : k < s.size), f k = (s[k]).toNat

/-- What sameText answers. -/
def ST (f : Nat → Nat) (n : Nat) (s : ByteArray) (w : World) (e : Ending) (w' : World) : Prop :=
  ∃ (B : Bool) (d : Nat), e = .returned (.bool B) ∧ (B = true ↔ TextIs f n s) ∧ w' = w.drewN d

set_option maxHeartbeats 800000 in
theorem sameText_any (b off n c : Nat) (f : Nat → Nat) (s : ByteArray) (w : World) (hn : n ≤ 1048576) (hs : s.size ≤ 100) (h : Has w b off n f) :
    Calls Try.prog 24 #[.slice (some ⟨b, off, none⟩) n c, .string s] w (ST f n s w) := by
  by_cases hsz : n = s.size
  · have t0 : ((n : Int) != (s.size : Int)) = false := by simp; omega
    have HZ : Hid (n = s.size) := hsz
    have hle : n ≤ s.size := by omega
    have hge : s.size ≤ n := by omega
    clear hsz
    go_enter Try.func24, Try.ntmps24
    go_wp2_with fail
    go_loopw [5] (fun t wr => ∃ k d : Nat, t = .int .i64 k ∧ k ≤ n ∧ wr = w.drewN d ∧ ∀ q (hq : q < s.size), q < k → f q = (s[q]).toNat) (fun t _ => n - (intOf t).toNat)
    case atStart => exact ⟨0, 0, rfl, by omega, rfl, fun q hq hk => absurd hk (by omega)⟩
    case round =>
      obtain ⟨k, d, rfl, hk, rfl, hall⟩ := hrel
      by_cases hlt : k < n
      · have hc1 := h.cell k hlt
        have hks : k < s.size := by omega
        have g0 : (0 : Int) ≤ (k : Int) := by omega
        have g1 : (k : Int) < (n : Int) := by omega
        have g3 : (k : Int) < (s.size : Int) := by omega
        by_cases hx : f k = (s[k]).toNat
        · have t1 : ((f k : Int) != ((s[k]).toNat : Int)) = false := by simp; omega
          have HX : Hid (f k = (s[k]).toNat) := hx
          clear hx
          go_wp2_with fail
          go_quiet (fail)
          go_wp2_with fail
          go_roundw
          case rel =>
            refine ⟨k + 1, d + nq, by go_num, by omega, rfl, fun q hq hqk => ?_⟩
            by_cases e : q = k
            · subst e; exact HX.out
            · exact hall q hq (by omega)
          case measure => simp [intOf]; omega
        · have t1 : ((f k : Int) != ((s[k]).toNat : Int)) = true := by simp; omega
          have HX : Hid (¬ f k = (s[k]).toNat) := hx
          clear hx
          go_wp2_with fail
          go_quiet (fail)
          go_wp2_with fail
          go_ret
          exact ⟨false, d + nq, rfl, ⟨fun e => (by cases e), fun e => absurd (e.2 k hks) HX.out⟩, by simp⟩
      · go_wp2_with fail
        go_ret
        exact ⟨true, d, rfl, ⟨fun _ => ⟨HZ.out, fun q hq => hall q hq (by omega)⟩, fun _ => rfl⟩, rfl⟩
  · have t0 : ((n : Int) != (s.size : Int)) = true := by simp; omega
    have HZ : Hid (¬ n = s.size) := hsz
    clear hsz
    go_enter Try.func24, Try.ntmps24
    go_wp2_with fail
    go_ret
    exact ⟨false, 0, rfl, ⟨fun e => (by cases e), fun e => absurd e.1 HZ.out⟩, rfl⟩
end Go.Proofs.Qxb6601609a
