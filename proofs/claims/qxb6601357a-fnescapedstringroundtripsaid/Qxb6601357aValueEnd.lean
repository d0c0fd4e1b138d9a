/-
  stringEnd, valueEnd: THE CODE UNDER TEST, BY THE PLAIN LOOPS.
-/
import Derived.Test.Qxb6601357aMString
namespace Go.Proofs.Qxb6601357a
open Go.RowKit

theorem strRet_inv {f : Nat → Nat} {n j r : Nat} (h : J.StrRet f n j r) : j < n ∧ ((f j = 92 ∧ J.StrRet f n (j + 2) r) ∨ (f j ≠ 92 ∧ f j = 34 ∧ r = j + 1) ∨ (f j ≠ 92 ∧ f j ≠ 34 ∧ J.StrRet f n (j + 1) r)) := by
  obtain ⟨k, h⟩ := h
  cases k with
  | zero => simp [J.strF] at h
  | succ k =>
    unfold J.strF at h
    by_cases h1 : j < n
    · rw [if_pos h1] at h
      refine ⟨h1, ?_⟩
      by_cases h2 : f j = 92
      · rw [if_pos h2] at h; exact .inl ⟨h2, k, h⟩
      · rw [if_neg h2] at h
        by_cases h3 : f j = 34
        · rw [if_pos h3] at h; cases h; exact .inr (.inl ⟨h2, h3, rfl⟩)
        · rw [if_neg h3] at h; exact .inr (.inr ⟨h2, h3, k, h⟩)
    · rw [if_neg h1] at h; cases h

theorem ret_inv {f : Nat → Nat} {n j d r : Nat} (h : J.Ret f n j d r) : j < n ∧
    ((f j = 34 ∧ ∃ e, J.StrRet f n (j + 1) e ∧ J.Ret f n e d r) ∨ (f j ≠ 34 ∧ (f j = 123 ∨ f j = 91) ∧ J.Ret f n (j + 1) (d + 1) r) ∨
     (f j ≠ 34 ∧ f j ≠ 123 ∧ f j ≠ 91 ∧ (f j = 125 ∨ f j = 93) ∧ 1 ≤ d ∧ (d = 1 ∧ r = j + 1 ∨ 2 ≤ d ∧ J.Ret f n (j + 1) (d - 1) r)) ∨
     (J.Inert (f j) ∧ J.Ret f n (j + 1) d r)) := by
  obtain ⟨k, h⟩ := h
  cases k with
  | zero => simp [J.loopF] at h
  | succ k =>
    unfold J.loopF at h
    by_cases h1 : j < n
    · rw [if_pos h1] at h
      refine ⟨h1, ?_⟩
      by_cases h2 : f j = 34
      · rw [if_pos h2] at h
        obtain ⟨e, he, hr⟩ := Option.bind_eq_some_iff.1 h
        exact .inl ⟨h2, e, ⟨_, he⟩, k, hr⟩
      · rw [if_neg h2] at h
        by_cases h3 : f j = 123 ∨ f j = 91
        · rw [if_pos h3] at h; exact .inr (.inl ⟨h2, h3, k, h⟩)
        · rw [if_neg h3] at h
          by_cases h4 : f j = 125 ∨ f j = 93
          · rw [if_pos h4] at h
            refine .inr (.inr (.inl ⟨h2, by omega, by omega, h4, ?_⟩))
            by_cases h5 : d = 0
            · rw [if_pos h5] at h; cases h
            · rw [if_neg h5] at h
              refine ⟨by omega, ?_⟩
              by_cases h6 : d = 1
              · rw [if_pos h6] at h; cases h; exact .inl ⟨h6, rfl⟩
              · rw [if_neg h6] at h; exact .inr ⟨by omega, k, h⟩
          · rw [if_neg h4] at h
            exact .inr (.inr (.inr ⟨⟨h2, by omega, by omega, by omega, by omega⟩, k, h⟩))
    · rw [if_neg h1] at h; cases h

theorem stringEnd_at (b off n c : Nat) (f : Nat → Nat) (i r : Nat) (w : World) (hn : n ≤ 1048576) (h : Has w b off n f) (hs : J.StrRet f n (i + 1) r) :
    Calls Try.prog 30 #[.slice (some ⟨b, off, none⟩) n c, .int .i64 i] w fun e w' => e = .returned (.int .i64 r) ∧ w' = w := by
  have hb := hs.bounds
  go_enter Try.func30, Try.ntmps30
  go_wp2_with fail
  go_loop [1] (fun t => ∃ j : Nat, t = .int .i64 j ∧ J.StrRet f n j r) (fun t => n - (intOf t).toNat)
  case atStart => exact ⟨i + 1, by go_num, hs⟩
  case round =>
    obtain ⟨j, rfl, hj⟩ := hrel
    obtain ⟨hlt, hj⟩ := strRet_inv hj
    have hc1 := h.cell j hlt
    have g0 : (0 : Int) ≤ (j : Int) := by omega
    have g1 : (j : Int) < (n : Int) := by omega
    rcases hj with ⟨c1, hj⟩ | ⟨c1, c2, e⟩ | ⟨c1, c2, hj⟩
    · have t1 : ((f j : Int) == 92) = true := eqt (k := 92) c1
      clear c1
      go_wp2_with fail
      go_round
      case rel => exact ⟨j + 2, by go_num, hj⟩
      case measure => simp [intOf]; omega
    · have t1 : ((f j : Int) == 92) = false := eqf (k := 92) c1
      have t2 : ((f j : Int) == 34) = true := eqt (k := 34) c2
      have HE : Hid (r = j + 1) := e
      clear c1 c2 e
      go_wp2_with fail
      go_ret
      exact ⟨by rw [HE.out]; rfl, rfl⟩
    · have t1 : ((f j : Int) == 92) = false := eqf (k := 92) c1
      have t2 : ((f j : Int) == 34) = false := eqf (k := 34) c2
      clear c1 c2
      go_wp2_with fail
      go_round
      case rel => exact ⟨j + 1, by go_num, hj⟩
      case measure => simp [intOf]; omega

theorem valueEnd_str (b off n c : Nat) (f : Nat → Nat) (i r : Nat) (w : World) (hn : n ≤ 1048576) (h : Has w b off n f) (hi : i < n) (hq : f i = 34) (hs : J.StrRet f n (i + 1) r) :
    Calls Try.prog 24 #[.slice (some ⟨b, off, none⟩) n c, .int .i64 i] w fun e w' => e = .returned (.int .i64 r) ∧ w' = w := by
  have hc1 := h.cell i hi
  have g0 : (0 : Int) ≤ (i : Int) := by omega
  have g1 : (i : Int) < (n : Int) := by omega
  have t1 : ((f i : Int) == 34) = true := eqt (k := 34) hq
  clear hq
  go_enter Try.func24, Try.ntmps24
  go_wp2_with (go_at_call 30; refine (stringEnd_at b off n c f i r _ hn h hs).mono ?_; rintro e w' ⟨rfl, hw'⟩; subst w')
  go_ret
  exact ⟨rfl, rfl⟩

set_option maxHeartbeats 1600000 in
theorem valueEnd_br (b off n c : Nat) (f : Nat → Nat) (i r : Nat) (w : World) (hn : n ≤ 1048576) (h : Has w b off n f) (hi : i < n) (ho : f i = 123 ∨ f i = 91) (hr : J.Ret f n i 0 r) :
    Calls Try.prog 24 #[.slice (some ⟨b, off, none⟩) n c, .int .i64 i] w fun e w' => e = .returned (.int .i64 r) ∧ w' = w := by
  have hc0 := h.cell i hi
  have y0 : (0 : Int) ≤ (i : Int) := by omega
  have y1 : (i : Int) < (n : Int) := by omega
  have t0 : ((f i : Int) == 34) = false := eqf (k := 34) (by omega)
  have main : ∀ (bb : Bool), ((f i : Int) == 123) = bb → (bb = false → ((f i : Int) == 91) = true) → Calls Try.prog 24 #[.slice (some ⟨b, off, none⟩) n c, .int .i64 i] w fun e w' => e = .returned (.int .i64 r) ∧ w' = w := by
    intro bb hb1 hb2
    cases bb with
    | true =>
      clear hb2 ho
      go_enter Try.func24, Try.ntmps24
      go_wp2_with fail
      go_loop [1, 5] (fun t s => ∃ j d : Nat, t = .int .i64 j ∧ s = .int .i64 d ∧ d ≤ j ∧ J.Ret f n j d r) (fun t _ => n - (intOf t).toNat)
      case atStart => exact ⟨i, 0, rfl, rfl, by omega, hr⟩
      case round =>
        obtain ⟨j, d, rfl, rfl, hdj, hj⟩ := hrel
        obtain ⟨hlt, hj⟩ := ret_inv hj
        have hc1 := h.cell j hlt
        have g0 : (0 : Int) ≤ (j : Int) := by omega
        have g1 : (j : Int) < (n : Int) := by omega
        clear hc0 y0 y1
        rcases hj with ⟨c1, e, hs, hj⟩ | ⟨c1, c2, hj⟩ | ⟨c1, c2, c3, c4, hd, hj⟩ | ⟨⟨c1, c2, c3, c4, c5⟩, hj⟩
        · have t1 : ((f j : Int) == 34) = true := eqt (k := 34) c1
          have hbs := hs.bounds
          clear c1
          go_wp2_with (go_at_call 30; refine (stringEnd_at b off n c f j e _ hn h hs).mono ?_; rintro e w' ⟨rfl, hw'⟩; subst w')
          go_round
          case rel => exact ⟨e, d, by go_num, rfl, by omega, hj⟩
          case measure => simp [intOf]; omega
        · have t1 : ((f j : Int) == 34) = false := eqf (k := 34) c1
          rcases c2 with c2 | c2
          · have t2 : ((f j : Int) == 123) = true := eqt (k := 123) c2
            clear c1 c2
            go_wp2_with fail
            go_round
            case rel => exact ⟨j + 1, d + 1, by go_num, by go_num, by omega, hj⟩
            case measure => simp [intOf]; omega
          · have t2 : ((f j : Int) == 123) = false := eqf (k := 123) (by omega)
            have t3 : ((f j : Int) == 91) = true := eqt (k := 91) c2
            clear c1 c2
            go_wp2_with fail
            go_round
            case rel => exact ⟨j + 1, d + 1, by go_num, by go_num, by omega, hj⟩
            case measure => simp [intOf]; omega
        · have t1 : ((f j : Int) == 34) = false := eqf (k := 34) c1
          have t2 : ((f j : Int) == 123) = false := eqf (k := 123) c2
          have t3 : ((f j : Int) == 91) = false := eqf (k := 91) c3
          rcases hj with ⟨rfl, he⟩ | ⟨hd2, hj⟩
          · have HE : Hid (r = j + 1) := he
            rcases c4 with c4 | c4
            · have t4 : ((f j : Int) == 125) = true := eqt (k := 125) c4
              clear c1 c2 c3 c4 he
              go_wp2_with fail
              go_ret
              exact ⟨by rw [HE.out]; rfl, rfl⟩
            · have t4 : ((f j : Int) == 125) = false := eqf (k := 125) (by omega)
              have t5 : ((f j : Int) == 93) = true := eqt (k := 93) c4
              clear c1 c2 c3 c4 he
              go_wp2_with fail
              go_ret
              exact ⟨by rw [HE.out]; rfl, rfl⟩
          · have t6 : (((d : Int) - 1) == 0) = false := by simp; omega
            rcases c4 with c4 | c4
            · have t4 : ((f j : Int) == 125) = true := eqt (k := 125) c4
              clear c1 c2 c3 c4
              go_wp2_with fail
              go_round
              case rel => exact ⟨j + 1, d - 1, by go_num, (show Value.int .i64 ((d : Int) - 1) = .int .i64 ((d - 1 : Nat) : Int) by congr 1; omega), by omega, hj⟩
              case measure => simp [intOf]; omega
            · have t4 : ((f j : Int) == 125) = false := eqf (k := 125) (by omega)
              have t5 : ((f j : Int) == 93) = true := eqt (k := 93) c4
              clear c1 c2 c3 c4
              go_wp2_with fail
              go_round
              case rel => exact ⟨j + 1, d - 1, by go_num, (show Value.int .i64 ((d : Int) - 1) = .int .i64 ((d - 1 : Nat) : Int) by congr 1; omega), by omega, hj⟩
              case measure => simp [intOf]; omega
        · have t1 : ((f j : Int) == 34) = false := eqf (k := 34) c1
          have t2 : ((f j : Int) == 123) = false := eqf (k := 123) c2
          have t3 : ((f j : Int) == 91) = false := eqf (k := 91) c3
          have t4 : ((f j : Int) == 125) = false := eqf (k := 125) c4
          have t5 : ((f j : Int) == 93) = false := eqf (k := 93) c5
          clear c1 c2 c3 c4 c5
          go_wp2_with fail
          go_round
          case rel => exact ⟨j + 1, d, by go_num, rfl, by omega, hj⟩
          case measure => simp [intOf]; omega
    | false =>
      have hb3 := hb2 rfl
      clear hb2 ho
      go_enter Try.func24, Try.ntmps24
      go_wp2_with fail
      go_loop [1, 5] (fun t s => ∃ j d : Nat, t = .int .i64 j ∧ s = .int .i64 d ∧ d ≤ j ∧ J.Ret f n j d r) (fun t _ => n - (intOf t).toNat)
      case atStart => exact ⟨i, 0, rfl, rfl, by omega, hr⟩
      case round =>
        obtain ⟨j, d, rfl, rfl, hdj, hj⟩ := hrel
        obtain ⟨hlt, hj⟩ := ret_inv hj
        have hc1 := h.cell j hlt
        have g0 : (0 : Int) ≤ (j : Int) := by omega
        have g1 : (j : Int) < (n : Int) := by omega
        clear hc0 y0 y1
        rcases hj with ⟨c1, e, hs, hj⟩ | ⟨c1, c2, hj⟩ | ⟨c1, c2, c3, c4, hd, hj⟩ | ⟨⟨c1, c2, c3, c4, c5⟩, hj⟩
        · have t1 : ((f j : Int) == 34) = true := eqt (k := 34) c1
          have hbs := hs.bounds
          clear c1
          go_wp2_with (go_at_call 30; refine (stringEnd_at b off n c f j e _ hn h hs).mono ?_; rintro e w' ⟨rfl, hw'⟩; subst w')
          go_round
          case rel => exact ⟨e, d, by go_num, rfl, by omega, hj⟩
          case measure => simp [intOf]; omega
        · have t1 : ((f j : Int) == 34) = false := eqf (k := 34) c1
          rcases c2 with c2 | c2
          · have t2 : ((f j : Int) == 123) = true := eqt (k := 123) c2
            clear c1 c2
            go_wp2_with fail
            go_round
            case rel => exact ⟨j + 1, d + 1, by go_num, by go_num, by omega, hj⟩
            case measure => simp [intOf]; omega
          · have t2 : ((f j : Int) == 123) = false := eqf (k := 123) (by omega)
            have t3 : ((f j : Int) == 91) = true := eqt (k := 91) c2
            clear c1 c2
            go_wp2_with fail
            go_round
            case rel => exact ⟨j + 1, d + 1, by go_num, by go_num, by omega, hj⟩
            case measure => simp [intOf]; omega
        · have t1 : ((f j : Int) == 34) = false := eqf (k := 34) c1
          have t2 : ((f j : Int) == 123) = false := eqf (k := 123) c2
          have t3 : ((f j : Int) == 91) = false := eqf (k := 91) c3
          rcases hj with ⟨rfl, he⟩ | ⟨hd2, hj⟩
          · have HE : Hid (r = j + 1) := he
            rcases c4 with c4 | c4
            · have t4 : ((f j : Int) == 125) = true := eqt (k := 125) c4
              clear c1 c2 c3 c4 he
              go_wp2_with fail
              go_ret
              exact ⟨by rw [HE.out]; rfl, rfl⟩
            · have t4 : ((f j : Int) == 125) = false := eqf (k := 125) (by omega)
              have t5 : ((f j : Int) == 93) = true := eqt (k := 93) c4
              clear c1 c2 c3 c4 he
              go_wp2_with fail
              go_ret
              exact ⟨by rw [HE.out]; rfl, rfl⟩
          · have t6 : (((d : Int) - 1) == 0) = false := by simp; omega
            rcases c4 with c4 | c4
            · have t4 : ((f j : Int) == 125) = true := eqt (k := 125) c4
              clear c1 c2 c3 c4
              go_wp2_with fail
              go_round
              case rel => exact ⟨j + 1, d - 1, by go_num, (show Value.int .i64 ((d : Int) - 1) = .int .i64 ((d - 1 : Nat) : Int) by congr 1; omega), by omega, hj⟩
              case measure => simp [intOf]; omega
            · have t4 : ((f j : Int) == 125) = false := eqf (k := 125) (by omega)
              have t5 : ((f j : Int) == 93) = true := eqt (k := 93) c4
              clear c1 c2 c3 c4
              go_wp2_with fail
              go_round
              case rel => exact ⟨j + 1, d - 1, by go_num, (show Value.int .i64 ((d : Int) - 1) = .int .i64 ((d - 1 : Nat) : Int) by congr 1; omega), by omega, hj⟩
              case measure => simp [intOf]; omega
        · have t1 : ((f j : Int) == 34) = false := eqf (k := 34) c1
          have t2 : ((f j : Int) == 123) = false := eqf (k := 123) c2
          have t3 : ((f j : Int) == 91) = false := eqf (k := 91) c3
          have t4 : ((f j : Int) == 125) = false := eqf (k := 125) c4
          have t5 : ((f j : Int) == 93) = false := eqf (k := 93) c5
          clear c1 c2 c3 c4 c5
          go_wp2_with fail
          go_round
          case rel => exact ⟨j + 1, d, by go_num, rfl, by omega, hj⟩
          case measure => simp [intOf]; omega
  rcases ho with h1 | h1
  · exact main true (eqt (k := 123) h1) (fun e => by cases e)
  · exact main false (eqf (k := 123) (by omega)) (fun _ => eqt (k := 91) h1)

theorem valueEnd_sc (b off n c : Nat) (f : Nat → Nat) (i r : Nat) (w : World) (hn : n ≤ 1048576) (h : Has w b off n f) (hir : i < r) (hr : r ≤ n) (hall : ∀ j, i ≤ j → j < r → J.Sc (f j)) (hend : r < n → J.Delim (f r)) :
    Calls Try.prog 24 #[.slice (some ⟨b, off, none⟩) n c, .int .i64 i] w fun e w' => e = .returned (.int .i64 r) ∧ w' = w := by
  have hc0 := h.cell i (by omega)
  have y0 : (0 : Int) ≤ (i : Int) := by omega
  have y1 : (i : Int) < (n : Int) := by omega
  have hsc := (hall i (by omega) hir).1
  unfold J.Inert at hsc
  have t0 : ((f i : Int) == 34) = false := eqf (k := 34) (by omega)
  have t1 : ((f i : Int) == 123) = false := eqf (k := 123) (by omega)
  have t2 : ((f i : Int) == 91) = false := eqf (k := 91) (by omega)
  clear hsc
  go_enter Try.func24, Try.ntmps24
  go_wp2_with fail
  go_loop [1] (fun t => ∃ j : Nat, t = .int .i64 j ∧ i ≤ j ∧ j ≤ r) (fun t => n - (intOf t).toNat)
  case atStart => exact ⟨i, rfl, by omega, by omega⟩
  case round =>
    obtain ⟨j, rfl, j1, j2⟩ := hrel
    by_cases hjr : j < r
    · have hs := hall j j1 hjr
      have hc1 := h.cell j (by omega)
      have g0 : (0 : Int) ≤ (j : Int) := by omega
      have g1 : (j : Int) < (n : Int) := by omega
      obtain ⟨⟨_, _, _, i4, i5⟩, hnd⟩ := hs
      unfold J.Delim at hnd
      have hnw : ¬ J.Ws (f j) := fun e => hnd (.inl e)
      have b1 : ((f j : Int) != 44) = true := net (k := 44) (by omega)
      have b2 : ((f j : Int) != 93) = true := net (k := 93) (by omega)
      have b3 : ((f j : Int) != 125) = true := net (k := 125) (by omega)
      clear hnd i4 i5 t0 t1 t2 hc0
      go_wp2_with (go_at_call 31; refine (isSpace_no _ _ hnw).mono ?_; rintro e w' ⟨rfl, hw'⟩; subst w')
      go_round
      case rel => exact ⟨j + 1, by go_num, by omega, by omega⟩
      case measure => simp [intOf]; omega
    · have e : r = j := by omega
      subst e
      by_cases hrn : r < n
      · have hd := hend hrn
        have hc1 := h.cell r hrn
        have g0 : (0 : Int) ≤ (r : Int) := by omega
        have g1 : (r : Int) < (n : Int) := by omega
        unfold J.Delim at hd
        clear t0 t1 t2 hc0
        by_cases hws : J.Ws (f r)
        · go_wp2_with (go_at_call 31; refine (isSpace_yes _ _ hws).mono ?_; rintro e w' ⟨rfl, hw'⟩; subst w')
          go_ret
          exact ⟨rfl, rfl⟩
        · rcases hd with hd | hd | hd | hd
          · exact absurd hd hws
          · have b1 : ((f r : Int) != 44) = false := nef (k := 44) hd
            clear hd
            go_wp2_with (go_at_call 31; refine (isSpace_no _ _ hws).mono ?_; rintro e w' ⟨rfl, hw'⟩; subst w')
            go_ret
            exact ⟨rfl, rfl⟩
          · have b1 : ((f r : Int) != 44) = true := net (k := 44) (by omega)
            have b2 : ((f r : Int) != 93) = false := nef (k := 93) hd
            clear hd
            go_wp2_with (go_at_call 31; refine (isSpace_no _ _ hws).mono ?_; rintro e w' ⟨rfl, hw'⟩; subst w')
            go_ret
            exact ⟨rfl, rfl⟩
          · have b1 : ((f r : Int) != 44) = true := net (k := 44) (by omega)
            have b2 : ((f r : Int) != 93) = true := net (k := 93) (by omega)
            have b3 : ((f r : Int) != 125) = false := nef (k := 125) hd
            clear hd
            go_wp2_with (go_at_call 31; refine (isSpace_no _ _ hws).mono ?_; rintro e w' ⟨rfl, hw'⟩; subst w')
            go_ret
            exact ⟨rfl, rfl⟩
      · have hd : decide ((r : Int) < (n : Int)) = false := by simp; omega
        clear t0 t1 t2 hc0
        go_wp2_with fail
        go_ret
        exact ⟨rfl, rfl⟩
end Go.Proofs.Qxb6601357a
