/-
  mString: THE GRAMMAR's READER OF A STRING, BY THE PLAIN READER.
-/
import Derived.Test.Qxb6601357aLeaves
namespace Go.Proofs.Qxb6601357a
open Go.RowKit

theorem eqt {c k : Nat} (h : c = k) : ((c : Int) == (k : Int)) = true := by simp; omega
theorem nef {c k : Nat} (h : c = k) : ((c : Int) != (k : Int)) = false := by simp; omega
theorem net {c k : Nat} (h : c ≠ k) : ((c : Int) != (k : Int)) = true := by simp; omega

/-- What mString answers, by the plain reader. -/
def SM (o : Option Nat) (w : World) (e : Ending) (w' : World) : Prop :=
  (∃ r : Nat, o = some r ∧ e = .returned (.tuple #[.int .i64 r, .bool true]) ∧ w' = w) ∨ (o = none ∧ e = .returned (.tuple #[.int .i64 0, .bool false]) ∧ w' = w)

theorem SM.yes {o : Option Nat} {w : World} {r : Nat} (h : o = some r) : SM o w (.returned (.tuple #[.int .i64 r, .bool true])) w := .inl ⟨r, h, rfl, rfl⟩
theorem SM.no {o : Option Nat} {w : World} (h : o = none) : SM o w (.returned (.tuple #[.int .i64 0, .bool false])) w := .inr ⟨h, rfl, rfl⟩

set_option maxHeartbeats 1600000 in
theorem mString_any (b off n c : Nat) (f : Nat → Nat) (hf : ∀ i, f i < 256) (i : Nat) (w : World) (hn : n ≤ 1048576) (hi : i < n) (h : Has w b off n f) :
    Calls Try.prog 18 #[.slice (some ⟨b, off, none⟩) n c, .int .i64 i] w (SM (J.strM f n (n + 1) (i + 1)) w) := by
  go_enter Try.func18, Try.ntmps18
  go_wp2_with fail
  go_loop [6] (fun t => ∃ j k : Nat, t = .int .i64 j ∧ j ≤ n ∧ n < k + j ∧ J.strM f n k j = J.strM f n (n + 1) (i + 1)) (fun t => n - (intOf t).toNat)
  case atStart => exact ⟨i + 1, n + 1, by go_num, by omega, by omega, rfl⟩
  case round =>
    obtain ⟨j, k, rfl, h1, h2, h3⟩ := hrel
    generalize J.strM f n (n + 1) (i + 1) = R at *
    by_cases hlt : j < n
    · have hcell := h.cell j hlt
      obtain ⟨q, rfl⟩ : ∃ q, k = q + 1 := ⟨k - 1, by omega⟩
      have g1 : (j : Int) < (n : Int) := by omega
      have g0 : (0 : Int) ≤ (j : Int) := by omega
      unfold J.strM at h3
      rw [if_pos hlt] at h3
      by_cases c1 : f j = 34
      · rw [if_pos c1] at h3
        have t1 := eqt c1
        have H3 : Hid (R = some (j + 1)) := h3.symm
        clear h3 c1
        go_wp2_with fail
        go_ret2
        exact SM.yes H3.out
      · rw [if_neg c1] at h3
        have t1 : ((f j : Int) == 34) = false := eqf (k := 34) c1
        by_cases c2 : f j = 92
        · rw [if_pos c2] at h3
          have t2 : ((f j : Int) != 92) = false := nef (k := 92) c2
          by_cases c3 : j + 1 < n
          · rw [if_pos c3] at h3
            have g2 : (j : Int) + 1 < (n : Int) := by omega
            have hcell1 := h.cell (j + 1) c3
            by_cases c4 : f (j + 1) = 117
            · rw [if_pos c4] at h3
              have t3 : ((f (j + 1) : Int) == 117) = true := eqt (k := 117) c4
              by_cases c5 : j + 5 < n
              · rw [if_pos c5] at h3
                have g5 : (j : Int) + 5 < (n : Int) := by omega
                have H3 : Hid ((if 0 ≤ J.hexv (f (j + 2)) ∧ 0 ≤ J.hexv (f (j + 3)) ∧ 0 ≤ J.hexv (f (j + 4)) ∧ 0 ≤ J.hexv (f (j + 5)) then J.strM f n q (j + 6) else none) = R) := h3
                clear h3 c1 c2 c4
                go_wp2_with fail
                go_loop [9] (fun t => ∃ s : Nat, t = .int .i64 ((j + 2 + s : Nat) : Int) ∧ s ≤ 4 ∧ ∀ u, u < s → 0 ≤ J.hexv (f (j + 2 + u))) (fun t => j + 6 - (intOf t).toNat)
                case atStart => exact ⟨0, by go_num, by omega, fun u hu => absurd hu (by omega)⟩
                case round =>
                  obtain ⟨s, rfl, hs4, hsx⟩ := hrel
                  by_cases hs : s < 4
                  · have hc2 := h.cell (j + 2 + s) (by omega)
                    have k0 : (0 : Int) ≤ ((j + 2 + s : Nat) : Int) := by omega
                    have k1 : ((j + 2 + s : Nat) : Int) < (n : Int) := by omega
                    have hfb := hf (j + 2 + s)
                    by_cases hx : 0 ≤ J.hexv (f (j + 2 + s))
                    · go_wp2_with (go_at_call 26; refine (hexVal_any _ _ hfb).mono ?_; rintro e w' ⟨rfl, hw'⟩; subst w')
                      go_round
                      case rel =>
                        refine ⟨s + 1, by go_num, by omega, fun u hu => ?_⟩
                        by_cases e : u = s
                        · subst e; exact hx
                        · exact hsx u (by omega)
                      case measure => simp [intOf]; omega
                    · go_wp2_with (go_at_call 26; refine (hexVal_any _ _ hfb).mono ?_; rintro e w' ⟨rfl, hw'⟩; subst w')
                      go_ret2
                      refine SM.no ?_
                      rw [← H3.out, if_neg]
                      rintro ⟨p0, p1, p2, p3⟩
                      rcases (show s = 0 ∨ s = 1 ∨ s = 2 ∨ s = 3 by omega) with rfl | rfl | rfl | rfl
                      · exact absurd p0 (Int.not_le.2 hx)
                      · exact absurd p1 (Int.not_le.2 hx)
                      · exact absurd p2 (Int.not_le.2 hx)
                      · exact absurd p3 (Int.not_le.2 hx)
                  · have e4 : s = 4 := by omega
                    subst e4
                    go_wp2_with fail
                    go_round
                    case rel =>
                      refine ⟨j + 6, q, by go_num, by omega, by omega, ?_⟩
                      rw [← H3.out, if_pos ⟨hsx 0 (by omega), hsx 1 (by omega), hsx 2 (by omega), hsx 3 (by omega)⟩]
                    case measure => simp [intOf]; omega
              · rw [if_neg c5] at h3
                have H3 : Hid (R = none) := h3.symm
                clear h3 c1 c2 c4
                go_wp2_with fail
                go_ret2
                exact SM.no H3.out
            · rw [if_neg c4] at h3
              have t3 : ((f (j + 1) : Int) == 117) = false := eqf (k := 117) c4
              by_cases c6 : 0 ≤ J.shortU (f (j + 1))
              · rw [if_pos c6] at h3
                have H3 : Hid (J.strM f n q (j + 2) = R) := h3
                clear h3 c1 c2 c4
                go_wp2_with (go_at_call 27; refine (short_any _ _).mono ?_; rintro e w' ⟨rfl, hw'⟩; subst w')
                go_round
                case rel => exact ⟨j + 2, q, by go_num, by omega, by omega, H3.out⟩
                case measure => simp [intOf]; omega
              · rw [if_neg c6] at h3
                have H3 : Hid (R = none) := h3.symm
                clear h3 c1 c2 c4
                go_wp2_with (go_at_call 27; refine (short_any _ _).mono ?_; rintro e w' ⟨rfl, hw'⟩; subst w')
                go_ret2
                exact SM.no H3.out
          · rw [if_neg c3] at h3
            have H3 : Hid (R = none) := h3.symm
            clear h3 c1 c2
            go_wp2_with fail
            go_ret2
            exact SM.no H3.out
        · rw [if_neg c2] at h3
          have t2 : ((f j : Int) != 92) = true := net (k := 92) c2
          have H3 : Hid (J.strM f n q (j + 1) = R) := h3
          clear h3 c1 c2
          go_wp2_with fail
          go_round
          case rel => exact ⟨j + 1, q, by go_num, by omega, by omega, H3.out⟩
          case measure => simp [intOf]; omega
    · have H3 : Hid (R = none) := by
        obtain ⟨q, rfl⟩ : ∃ q, k = q + 1 := ⟨k - 1, by omega⟩
        unfold J.strM at h3
        rw [if_neg hlt] at h3
        exact h3.symm
      clear h3
      go_wp2_with fail
      go_ret2
      exact SM.no H3.out
end Go.Proofs.Qxb6601357a
