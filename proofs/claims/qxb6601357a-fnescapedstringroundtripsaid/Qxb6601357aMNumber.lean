/-
  mNumber: THE GRAMMAR's READER OF A NUMBER: where it takes one, its bytes are a scalar's.
-/
import Derived.Test.Qxb6601357aNumFrac
namespace Go.Proofs.Qxb6601357a
open Go.RowKit
set_option maxRecDepth 100000 in
set_option maxHeartbeats 3200000 in
theorem mNumber_any (b off n c : Nat) (f : Nat → Nat) (i : Nat) (w : World) (hn : n ≤ 1048576) (hi : i < n) (h : Has w b off n f) :
    Calls Try.prog 23 #[.slice (some ⟨b, off, none⟩) n c, .int .i64 i] w (MN f n i w) := by
  have hc0 := h.cell i hi
  have g0 : (0 : Int) ≤ (i : Int) := by omega
  have g1 : (i : Int) < (n : Int) := by omega
  go_enter Try.func23, Try.ntmps23
  go_upto_if 18 with fail
  go_cut [6] (fun t wx => wx = w ∧ ∃ j : Nat, t = .int .i64 j ∧ Nm f n i j)
  case first =>
    by_cases c1 : f i = 45
    · have t1 : ((f i : Int) == 45) = true := eqt (k := 45) c1
      go_wp2_with fail
      go_meet
      exact ⟨rfl, i + 1, by go_num, (Nm.start (by omega)).step hi (by rw [c1]; unfold J.Sc J.Inert J.Delim J.Ws; omega)⟩
    · have t1 : ((f i : Int) == 45) = false := eqf (k := 45) c1
      go_wp2_with fail
      go_meet
      exact ⟨rfl, i, rfl, Nm.start (by omega)⟩
  case rest =>
    obtain ⟨hwc, j, rfl, hj⟩ := hcut
    subst wc
    clear hc0 g0 g1
    have l1 := hj.1
    have l2 := hj.2.1
    by_cases hlt : j < n
    · have hc1 := h.cell j hlt
      have g0 : (0 : Int) ≤ (j : Int) := by omega
      have g1 : (j : Int) < (n : Int) := by omega
      go_upto_if 29 with fail
      go_cut [6] (fun t wx => wx = w ∧ ∃ j : Nat, t = .int .i64 j ∧ i < j ∧ Nm f n i j)
      case first =>
        by_cases c1 : f j = 48
        · have t1 : ((f j : Int) == 48) = true := eqt (k := 48) c1
          go_wp2_with fail
          go_meet
          exact ⟨rfl, j + 1, by go_num, by omega, hj.step hlt (sc_digit (by rw [c1]; unfold J.Digit; omega))⟩
        · have t1 : ((f j : Int) == 48) = false := eqf (k := 48) c1
          by_cases c2 : 49 ≤ f j
          · by_cases c3 : f j ≤ 57
            · have t3 : decide ((f j : Int) ≤ 57) = true := by simp; omega
              go_wp2_with fail
              go_loop [6] (fun t => ∃ q : Nat, t = .int .i64 q ∧ j ≤ q ∧ (q = j ∨ i < q) ∧ Nm f n i q) (fun t => n - (intOf t).toNat)
              case atStart => exact ⟨j, rfl, Nat.le_refl _, .inl rfl, hj⟩
              case round =>
                obtain ⟨q, rfl, q1, q2, hq⟩ := hrel
                have l3 := hq.2.1
                by_cases hql : q < n
                · have hcq := h.cell q hql
                  have k0 : (0 : Int) ≤ (q : Int) := by omega
                  have k1 : (q : Int) < (n : Int) := by omega
                  by_cases hd : J.Digit (f q)
                  · go_wp2_with (go_at_call 22; refine (isDigit_yes _ _ hd).mono ?_; rintro e w' ⟨rfl, hw'⟩; subst w')
                    go_round
                    case rel => exact ⟨q + 1, by go_num, by omega, .inr (by omega), hq.step hql (sc_digit hd)⟩
                    case measure => simp [intOf]; omega
                  · have hqj : i < q := by
                      rcases q2 with rfl | q2
                      · exact absurd (show J.Digit (f q) by unfold J.Digit; omega) hd
                      · exact q2
                    go_wp2_with (go_at_call 22; refine (isDigit_no _ _ hd).mono ?_; rintro e w' ⟨rfl, hw'⟩; subst w')
                    go_meet
                    exact ⟨rfl, q, rfl, hqj, hq⟩
                · have hqd : decide ((q : Int) < (n : Int)) = false := by simp; omega
                  go_wp2_with fail
                  go_meet
                  exact ⟨rfl, q, rfl, by omega, hq⟩
            · have t3 : decide ((f j : Int) ≤ 57) = false := by simp; omega
              go_wp2_with fail
              go_ret2
              exact .inr ⟨rfl, rfl⟩
          · have t3 : decide ((49 : Int) ≤ (f j : Int)) = false := by simp; omega
            go_wp2_with fail
            go_ret2
            exact .inr ⟨rfl, rfl⟩
      case rest =>
        obtain ⟨hwc, j2, rfl, hij, hj2⟩ := hcut
        subst wc
        clear hc1 g0 g1 hj l1 l2 hlt
        go_step
        exact num_frac ⟨_, _, _, _, _, rfl⟩ b off n c f i j2 w hn h hij hj2
    · have hd : decide ((j : Int) < (n : Int)) = false := by simp; omega
      go_wp2_with fail
      go_ret2
      exact .inr ⟨rfl, rfl⟩
end Go.Proofs.Qxb6601357a
