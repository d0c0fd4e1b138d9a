/-
  THE LEAVES' CONTRACTS: isWS, isSpace, isDigit, isDelim, hexVal, shortUnescape, skipWS.
-/
import Derived.Test.Qxb6601357aRows
import Derived.Test.Qxb6601357aPlain
import Derived.WalkKit
import Derived.WalkSpells
import Derived.Deep.QuietTactic
import Derived.BigQuiet
namespace Go.Proofs.Qxb6601357a
open Go.RowKit

theorem eqf {c k : Nat} (h : c ≠ k) : ((c : Int) == (k : Int)) = false := by simp; omega

theorem isWS_yes (c : Nat) (w : World) (h : J.Ws c) : Calls Try.prog 28 #[.int .u8 c] w fun e w' => e = .returned (.bool true) ∧ w' = w := by
  unfold J.Ws at h
  rcases h with rfl | rfl | rfl | rfl
  all_goals
    go_enter Try.func28, Try.ntmps28
    go_wp2
    go_ret
    exact ⟨rfl, rfl⟩
theorem isWS_no (c : Nat) (w : World) (h : ¬ J.Ws c) : Calls Try.prog 28 #[.int .u8 c] w fun e w' => e = .returned (.bool false) ∧ w' = w := by
  unfold J.Ws at h
  have b1 : ((c : Int) == 32) = false := eqf (k := 32) (by omega)
  have b2 : ((c : Int) == 9) = false := eqf (k := 9) (by omega)
  have b3 : ((c : Int) == 10) = false := eqf (k := 10) (by omega)
  have b4 : ((c : Int) == 13) = false := eqf (k := 13) (by omega)
  clear h
  go_enter Try.func28, Try.ntmps28
  go_wp2
  go_ret
  exact ⟨rfl, rfl⟩

theorem isSpace_yes (c : Nat) (w : World) (h : J.Ws c) : Calls Try.prog 31 #[.int .u8 c] w fun e w' => e = .returned (.bool true) ∧ w' = w := by
  unfold J.Ws at h
  rcases h with rfl | rfl | rfl | rfl
  all_goals
    go_enter Try.func31, Try.ntmps31
    go_wp2
    go_ret
    exact ⟨rfl, rfl⟩
theorem isSpace_no (c : Nat) (w : World) (h : ¬ J.Ws c) : Calls Try.prog 31 #[.int .u8 c] w fun e w' => e = .returned (.bool false) ∧ w' = w := by
  unfold J.Ws at h
  have b1 : ((c : Int) == 32) = false := eqf (k := 32) (by omega)
  have b2 : ((c : Int) == 9) = false := eqf (k := 9) (by omega)
  have b3 : ((c : Int) == 10) = false := eqf (k := 10) (by omega)
  have b4 : ((c : Int) == 13) = false := eqf (k := 13) (by omega)
  clear h
  go_enter Try.func31, Try.ntmps31
  go_wp2
  go_ret
  exact ⟨rfl, rfl⟩

theorem isDigit_yes (c : Nat) (w : World) (h : J.Digit c) : Calls Try.prog 22 #[.int .u8 c] w fun e w' => e = .returned (.bool true) ∧ w' = w := by
  obtain ⟨h1, h2⟩ := h
  have hd : decide ((c : Int) ≤ 57) = true := by simp; omega
  go_enter Try.func22, Try.ntmps22
  go_wp2
  go_ret
  exact ⟨rfl, rfl⟩
theorem isDigit_no (c : Nat) (w : World) (h : ¬ J.Digit c) : Calls Try.prog 22 #[.int .u8 c] w fun e w' => e = .returned (.bool false) ∧ w' = w := by
  unfold J.Digit at h
  by_cases h1 : 48 ≤ c
  · have h2 : decide ((c : Int) ≤ 57) = false := by simp; omega
    clear h
    go_enter Try.func22, Try.ntmps22
    go_wp2
    go_ret
    exact ⟨rfl, rfl⟩
  · clear h
    go_enter Try.func22, Try.ntmps22
    go_wp2
    go_ret
    exact ⟨rfl, rfl⟩

theorem ret_int {k : IntKind} {a b : Int} (h : a = b) : Ending.returned (.int k a) = .returned (.int k b) := by rw [h]

theorem hexVal_any (c : Nat) (w : World) (hc : c < 256) : Calls Try.prog 26 #[.int .u8 c] w fun e w' => e = .returned (.int .i64 (J.hexv c)) ∧ w' = w := by
  unfold J.hexv
  by_cases h1 : 48 ≤ c ∧ c ≤ 57
  · rw [if_pos h1]
    obtain ⟨a, b⟩ := h1
    go_enter Try.func26, Try.ntmps26
    go_wp2
    go_ret
    exact ⟨rfl, rfl⟩
  · rw [if_neg h1]
    by_cases h2 : 97 ≤ c ∧ c ≤ 102
    · rw [if_pos h2]
      obtain ⟨a, b⟩ := h2
      clear h1
      have H : Hid ((c : Int) - 87 = (c : Int) - 97 + 10) := (by omega : (c : Int) - 87 = (c : Int) - 97 + 10)
      go_enter Try.func26, Try.ntmps26
      go_wp2
      go_ret
      exact ⟨ret_int H.out.symm, rfl⟩
    · rw [if_neg h2]
      by_cases h3 : 65 ≤ c ∧ c ≤ 70
      · rw [if_pos h3]
        obtain ⟨a, b⟩ := h3
        clear h1 h2
        have H : Hid ((c : Int) - 55 = (c : Int) - 65 + 10) := (by omega : (c : Int) - 55 = (c : Int) - 65 + 10)
        go_enter Try.func26, Try.ntmps26
        go_wp2
        go_ret
        exact ⟨ret_int H.out.symm, rfl⟩
      · rw [if_neg h3]
        rcases (show c < 48 ∨ (57 < c ∧ c < 65) ∨ (70 < c ∧ c < 97) ∨ 102 < c by omega) with h | ⟨h, h'⟩ | ⟨h, h'⟩ | h
        all_goals
          clear h1 h2 h3
          go_enter Try.func26, Try.ntmps26
          go_wp2
          go_ret
          exact ⟨rfl, rfl⟩

theorem short_any (c : Nat) (w : World) : Calls Try.prog 27 #[.int .u8 c] w fun e w' => e = .returned (.int .i64 (J.shortU c)) ∧ w' = w := by
  unfold J.shortU
  by_cases h1 : c = 34 ∨ c = 92 ∨ c = 47 ∨ c = 98 ∨ c = 102 ∨ c = 110 ∨ c = 114 ∨ c = 116
  · rcases h1 with rfl | rfl | rfl | rfl | rfl | rfl | rfl | rfl
    all_goals
      go_enter Try.func27, Try.ntmps27
      go_wp2
      go_ret
      exact ⟨rfl, rfl⟩
  · rw [if_neg (by omega), if_neg (by omega), if_neg (by omega), if_neg (by omega), if_neg (by omega), if_neg (by omega), if_neg (by omega), if_neg (by omega)]
    have b1 : ((c : Int) == 34) = false := eqf (k := 34) (by omega)
    have b2 : ((c : Int) == 92) = false := eqf (k := 92) (by omega)
    have b3 : ((c : Int) == 47) = false := eqf (k := 47) (by omega)
    have b4 : ((c : Int) == 98) = false := eqf (k := 98) (by omega)
    have b5 : ((c : Int) == 102) = false := eqf (k := 102) (by omega)
    have b6 : ((c : Int) == 110) = false := eqf (k := 110) (by omega)
    have b7 : ((c : Int) == 114) = false := eqf (k := 114) (by omega)
    have b8 : ((c : Int) == 116) = false := eqf (k := 116) (by omega)
    clear h1
    go_enter Try.func27, Try.ntmps27
    go_wp2
    go_ret
    exact ⟨rfl, rfl⟩

/-- isDelim. -/
theorem isDelim_yes (c : Nat) (w : World) (h : J.Delim c) : Calls Try.prog 14 #[.int .u8 c] w fun e w' => e = .returned (.bool true) ∧ w' = w := by
  unfold J.Delim at h
  by_cases hw : J.Ws c
  · go_enter Try.func14, Try.ntmps14
    go_wp2_with (go_at_call 28; refine (isWS_yes c _ hw).mono ?_; rintro e w' ⟨rfl, hw'⟩; subst w')
    go_ret
    exact ⟨rfl, rfl⟩
  · rcases h with h | rfl | rfl | rfl
    · exact absurd h hw
    all_goals
      go_enter Try.func14, Try.ntmps14
      go_wp2_with (go_at_call 28; refine (isWS_no _ _ hw).mono ?_; rintro e w' ⟨rfl, hw'⟩; subst w')
      go_ret
      exact ⟨rfl, rfl⟩
theorem isDelim_no (c : Nat) (w : World) (h : ¬ J.Delim c) : Calls Try.prog 14 #[.int .u8 c] w fun e w' => e = .returned (.bool false) ∧ w' = w := by
  unfold J.Delim at h
  have hw : ¬ J.Ws c := fun e => h (.inl e)
  have b1 : ((c : Int) == 44) = false := eqf (k := 44) (by omega)
  have b2 : ((c : Int) == 93) = false := eqf (k := 93) (by omega)
  have b3 : ((c : Int) == 125) = false := eqf (k := 125) (by omega)
  clear h
  go_enter Try.func14, Try.ntmps14
  go_wp2_with (go_at_call 28; refine (isWS_no _ _ hw).mono ?_; rintro e w' ⟨rfl, hw'⟩; subst w')
  go_ret
  exact ⟨rfl, rfl⟩

/-- The n bytes 'f' lie in block b from 'off' on. -/
structure Has (w : World) (b off n : Nat) (f : Nat → Nat) : Prop where
  cell : ∀ i, i < n → w.cell? ⟨b, off + i, none⟩ = some (.int .u8 (f i))
theorem Has.drewN {w : World} {b off n : Nat} {f : Nat → Nat} (h : Has w b off n f) (d : Nat) : Has (w.drewN d) b off n f := ⟨fun i hi => h.cell i hi⟩

/-- What skipWS answers. -/
def SW (f : Nat → Nat) (n i : Nat) (w : World) (e : Ending) (w' : World) : Prop :=
  ∃ r : Nat, e = .returned (.int .i64 r) ∧ w' = w ∧ i ≤ r ∧ r ≤ n ∧ ∀ t, i ≤ t → t < r → J.Ws (f t)

theorem skipWS_any (b off n c : Nat) (f : Nat → Nat) (i : Nat) (w : World) (hn : n ≤ 1048576) (hi : i ≤ n) (h : Has w b off n f) :
    Calls Try.prog 29 #[.slice (some ⟨b, off, none⟩) n c, .int .i64 i] w (SW f n i w) := by
  go_enter Try.func29, Try.ntmps29
  go_wp2_with fail
  go_loop [1] (fun t => ∃ j : Nat, t = .int .i64 j ∧ i ≤ j ∧ j ≤ n ∧ ∀ t, i ≤ t → t < j → J.Ws (f t)) (fun t => n - (intOf t).toNat)
  case atStart => exact ⟨i, rfl, Nat.le_refl _, hi, fun t h1 h2 => absurd h1 (by omega)⟩
  case round =>
    obtain ⟨j, rfl, h1, h2, h3⟩ := hrel
    by_cases hlt : j < n
    · have hcell := h.cell j hlt
      have g1 : (j : Int) < (n : Int) := by omega
      have g0 : (0 : Int) ≤ (j : Int) := by omega
      by_cases hw : J.Ws (f j)
      · go_wp2_with (go_at_call 28; refine (isWS_yes _ _ hw).mono ?_; rintro e w' ⟨rfl, hw'⟩; subst w')
        go_round
        case rel =>
          refine ⟨j + 1, by go_num, by omega, by omega, fun t a b => ?_⟩
          by_cases e : t = j
          · subst e; exact hw
          · exact h3 t a (by omega)
        case measure => simp [intOf]; omega
      · go_wp2_with (go_at_call 28; refine (isWS_no _ _ hw).mono ?_; rintro e w' ⟨rfl, hw'⟩; subst w')
        go_ret
        exact ⟨j, rfl, rfl, h1, h2, h3⟩
    · have hd : decide ((j : Int) < (n : Int)) = false := by simp; omega
      go_wp2_with fail
      go_ret
      exact ⟨j, rfl, rfl, h1, h2, h3⟩
end Go.Proofs.Qxb6601357a
