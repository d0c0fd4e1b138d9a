import Derived.Test.Qxb6601609aNonTailA
namespace Go.Proofs.Qxb6601609a
open Go.RowKit
set_option linter.unusedVariables false

set_option maxHeartbeats 800000 in
theorem zzB21_yes (a b c : Option Addr) (n1 c1 n2 c2 n3 c3 : Nat) (x1 x2 x3 x4 x5 x6 x7 : Value) (w : World) (h : n1 + n2 + n3 ≤ 1048576) :
    Calls Try.prog 21 #[.slice a n1 c1, .slice b n2 c2, .slice c n3 c3, x1, x2, x3, x4, x5, x6, x7] w fun e w' => e = .returned (.bool true) ∧ w' = w := by
  go_enter Try.func21, Try.ntmps21
  go_wp2_with fail
  go_ret
  exact ⟨rfl, rfl⟩
set_option maxHeartbeats 800000 in
theorem zzB21_no (a b c : Option Addr) (n1 c1 n2 c2 n3 c3 : Nat) (x1 x2 x3 x4 x5 x6 x7 : Value) (w : World) (h : ¬ n1 + n2 + n3 ≤ 1048576) :
    Calls Try.prog 21 #[.slice a n1 c1, .slice b n2 c2, .slice c n3 c3, x1, x2, x3, x4, x5, x6, x7] w fun e w' => e = .returned (.bool false) ∧ w' = w := by
  by_cases h1 : n1 ≤ 1048576
  · by_cases h2 : n2 ≤ 1048576
    · by_cases h3 : n1 + n2 ≤ 1048576
      · by_cases h4 : n3 ≤ 1048576
        · go_enter Try.func21, Try.ntmps21
          go_wp2_with fail
          go_ret
          exact ⟨rfl, rfl⟩
        · go_enter Try.func21, Try.ntmps21
          go_wp2_with fail
          go_ret
          exact ⟨rfl, rfl⟩
      · go_enter Try.func21, Try.ntmps21
        go_wp2_with fail
        go_ret
        exact ⟨rfl, rfl⟩
    · go_enter Try.func21, Try.ntmps21
      go_wp2_with fail
      go_ret
      exact ⟨rfl, rfl⟩
  · go_enter Try.func21, Try.ntmps21
    go_wp2_with fail
    go_ret
    exact ⟨rfl, rfl⟩

set_option maxRecDepth 100000 in
set_option maxHeartbeats 1600000 in
theorem non_bad (a0 : Option Addr) (n0 c0 : Nat) (a1 : Option Addr) (n1 c1 : Nat) (a2 : Option Addr) (n2 c2 : Nat) (m b d k mf st en : Int) (w : World) (h : ¬ (n0 + n1 + n2 ≤ 1048576 ∧ n0 ≤ 65536 ∧ n1 ≤ 4096 ∧ n2 ≤ 4096 ∧ n1 = n2 ∧ 0 ≤ st ∧ st < en ∧ en ≤ n0)) :
    Calls Try.prog 7 #[.slice a0 n0 c0, .slice a1 n1 c1, .slice a2 n2 c2, .int .i64 m, .int .i64 b, .int .i64 d, .int .i64 k, .int .i64 mf, .int .i64 st, .int .i64 en] w fun e w' => e = .returned (.bool true) ∧ Below w.heap.size w w' := by
  by_cases hs : n0 + n1 + n2 ≤ 1048576
  · have HS : Hid (n0 + n1 + n2 ≤ 1048576) := hs
    by_cases h1 : n0 ≤ 65536
    · by_cases h2 : n1 ≤ 4096
      · by_cases h3 : n2 ≤ 4096
        · by_cases h4 : n1 = n2
          · subst h4
            have t4 : ((n1 : Int) != (n1 : Int)) = false := by simp
            by_cases h5 : 0 ≤ st
            · have t5 : decide (st < 0) = false := decide_eq_false (by omega)
              by_cases h6 : st < en
              · have t6 : decide (en ≤ st) = false := decide_eq_false (by omega)
                have t7 : decide ((n0 : Int) < en) = true := decide_eq_true (by omega)
                clear h hs
                go_enter Try.func7, Try.ntmps7
                go_wp2_with (go_at_call 21; refine (zzB21_yes _ _ _ _ _ _ _ _ _ _ _ _ _ _ _ _ _ HS.out).mono ?_; rintro e1 w' ⟨rfl, hw'⟩; subst w')
                go_ret
                exact ⟨rfl, Below.refl _ _⟩
              · have t6 : decide (en ≤ st) = true := decide_eq_true (by omega)
                clear h hs
                go_enter Try.func7, Try.ntmps7
                go_wp2_with (go_at_call 21; refine (zzB21_yes _ _ _ _ _ _ _ _ _ _ _ _ _ _ _ _ _ HS.out).mono ?_; rintro e1 w' ⟨rfl, hw'⟩; subst w')
                go_ret
                exact ⟨rfl, Below.refl _ _⟩
            · have t5 : decide (st < 0) = true := decide_eq_true (by omega)
              clear h hs
              go_enter Try.func7, Try.ntmps7
              go_wp2_with (go_at_call 21; refine (zzB21_yes _ _ _ _ _ _ _ _ _ _ _ _ _ _ _ _ _ HS.out).mono ?_; rintro e1 w' ⟨rfl, hw'⟩; subst w')
              go_ret
              exact ⟨rfl, Below.refl _ _⟩
          · have t4 : ((n1 : Int) != (n2 : Int)) = true := by simp; omega
            clear h hs h4
            go_enter Try.func7, Try.ntmps7
            go_wp2_with (go_at_call 21; refine (zzB21_yes _ _ _ _ _ _ _ _ _ _ _ _ _ _ _ _ _ HS.out).mono ?_; rintro e1 w' ⟨rfl, hw'⟩; subst w')
            go_ret
            exact ⟨rfl, Below.refl _ _⟩
        · clear h hs
          go_enter Try.func7, Try.ntmps7
          go_wp2_with (go_at_call 21; refine (zzB21_yes _ _ _ _ _ _ _ _ _ _ _ _ _ _ _ _ _ HS.out).mono ?_; rintro e1 w' ⟨rfl, hw'⟩; subst w')
          go_ret
          exact ⟨rfl, Below.refl _ _⟩
      · clear h hs
        go_enter Try.func7, Try.ntmps7
        go_wp2_with (go_at_call 21; refine (zzB21_yes _ _ _ _ _ _ _ _ _ _ _ _ _ _ _ _ _ HS.out).mono ?_; rintro e1 w' ⟨rfl, hw'⟩; subst w')
        go_ret
        exact ⟨rfl, Below.refl _ _⟩
    · clear h hs
      go_enter Try.func7, Try.ntmps7
      go_wp2_with (go_at_call 21; refine (zzB21_yes _ _ _ _ _ _ _ _ _ _ _ _ _ _ _ _ _ HS.out).mono ?_; rintro e1 w' ⟨rfl, hw'⟩; subst w')
      go_ret
      exact ⟨rfl, Below.refl _ _⟩
  · have HS : Hid (¬ n0 + n1 + n2 ≤ 1048576) := hs
    clear h hs
    go_enter Try.func7, Try.ntmps7
    go_wp2_with (go_at_call 21; refine (zzB21_no _ _ _ _ _ _ _ _ _ _ _ _ _ _ _ _ _ HS.out).mono ?_; rintro e1 w' ⟨rfl, hw'⟩; subst w')
    go_ret
    exact ⟨rfl, Below.refl _ _⟩

set_option maxRecDepth 100000 in
set_option maxHeartbeats 3200000 in
theorem non_good (a0 : Option Addr) (n0 c0 : Nat) (a1 : Option Addr) (n1 c1 : Nat) (a2 : Option Addr) (c2 : Nat) (m b d k mf : Int) (s e : Nat) (f cl : Nat → Nat) (bd : Nat → Bool) (w : World)
    (z0 : a0 = none → n0 = 0) (z1 : a1 = none → n1 = 0) (z2 : a2 = none → n1 = 0)
    (r0 : Rd w a0 n0 (fun i => .int .u8 (f i))) (r1 : Rd w a1 n1 (fun i => .int .u8 (cl i))) (r2 : Rd w a2 n1 (fun i => .bool (bd i))) (hf : ∀ i, f i < 256)
    (h0 : n0 ≤ 65536) (h1 : n1 ≤ 4096) (hse : s < e) (hen : e ≤ n0) :
    Calls Try.prog 7 #[.slice a0 n0 c0, .slice a1 n1 c1, .slice a2 n1 c2, .int .i64 m, .int .i64 b, .int .i64 d, .int .i64 k, .int .i64 mf, .int .i64 s, .int .i64 e] w fun e w' => e = .returned (.bool true) ∧ Below w.heap.size w w' := by
  have HS : Hid (n0 + n1 + n1 ≤ 1048576) := (by omega : n0 + n1 + n1 ≤ 1048576)
  have t4 : ((n1 : Int) != (n1 : Int)) = false := by simp
  have t5 : decide ((s : Int) < 0) = false := decide_eq_false (by omega)
  have t6 : decide ((e : Int) ≤ (s : Int)) = false := decide_eq_false (by omega)
  have t7 : decide ((n0 : Int) < (e : Int)) = false := decide_eq_false (by omega)
  go_enter Try.func7, Try.ntmps7
  go_wp2_with (go_at_call 21; refine (zzB21_yes _ _ _ _ _ _ _ _ _ _ _ _ _ _ _ _ _ HS.out).mono ?_; rintro e1 w' ⟨rfl, hw'⟩; subst w')
  refine (cloneB_any a0 n0 c0 (fun i => (f i : Int)) w (by omega) z0 r0).mono ?_
  rintro e1 w1 ⟨q0, rfl, y0, s0, l0⟩
  have r1a := r1.size l0
  have r2a := r2.size l0
  obtain ⟨sb, soff, rfl, hsb, hcs⟩ := s0.at_ (by omega)
  have hHas1 : Has w1 sb soff n0 f := ⟨hcs⟩
  clear s0 hcs r0 r1 r2 z0
  go_wp2_with fail
  refine (cloneB_any a1 n1 c1 (fun i => (cl i : Int)) w1 (by omega) z1 r1a).mono ?_
  rintro e1 w2 ⟨q1, rfl, y1, s1, l1⟩
  have hHas2 : Has w2 sb soff n0 f := hHas1.below l1 hsb
  have hsb2 : sb < w2.heap.size := Nat.lt_of_lt_of_le hsb l1.size
  have r2b := r2a.size l1
  have bel2 : Below w.heap.size w w2 := l0.trans (l1.mono l0.size)
  clear hHas1 hsb r1a r2a l0 l1 z1
  go_wp2_with fail
  refine (cloneL_any a2 n1 c2 bd w2 (by omega) z2 r2b).mono ?_
  rintro e1 w3 ⟨q2, rfl, y2, s2, l2⟩
  have hHas3 : Has w3 sb soff n0 f := hHas2.below l2 hsb2
  have hsb3 : sb < w3.heap.size := Nat.lt_of_lt_of_le hsb2 l2.size
  have s1b := s1.size l2
  have bel3 : Below w.heap.size w w3 := bel2.trans (l2.mono bel2.size)
  clear hHas2 hsb2 r2b l2 z2 s1 bel2
  have hc1 : w3.cell? ⟨sb, soff + s, none⟩ = some (.int .u8 (f s)) := hHas3.cell s (by omega)
  have g0 : (0 : Int) ≤ (s : Int) := by omega
  have g1 : (s : Int) < (n0 : Int) := by omega
  by_cases hcz : cof (f s) = 0
  · have tz : ((cof (f s) : Int) != 0) = false := by simp [hcz]
    have HZ : Hid (cof (f s) = 0) := hcz
    clear hcz
    go_upto_region 19 with (go_at_call 17; refine (modelCloser_any _ _).mono ?_; rintro e1 w' ⟨rfl, hw'⟩; subst w')
    go_cut [22, 23, 24, 25, 26, 27, 28, 29, 30] (fun x22 x23 x24 x25 x26 x27 x28 x29 x30 wx => ∃ o tc tb, NonSpec f s e n1 cl bd m b d k o ∧ x22 = .int .i64 0 ∧ x23 = .pointer none ∧ x24 = .slice tc o.N o.N ∧ x25 = .slice tb o.N o.N ∧ x26 = .int .i64 o.m ∧ x27 = .int .i64 o.b ∧ x28 = .int .i64 o.d ∧ x29 = .int .i64 o.k ∧ x30 = .int .i64 o.f ∧ Rd wx tc o.N (fun i => .int .u8 (cl i)) ∧ Rd wx tb o.N (fun i => .bool (bd i)) ∧ Below w3.heap.size w3 wx)
    case first =>
      go_wp2_with (go_at_call 18; refine (zzTake sb soff n0 n0 s e f q1 q2 n1 n1 n1 cl bd m b d k mf w3 (NonSpec f s e n1 cl bd m b d k) (by omega) (fun o ho => by rcases ho.pop with ⟨_, _, _, h5, _⟩ | ⟨_, h5, _⟩ <;> omega) hsb3 hHas3 s1b s2 (fun G wt ov hG hh hns hown hgo => take_non G w3.heap.size sb soff n0 n0 s e ov n1 cl bd f m b d k mf wt hse hen (Nat.le_refl _) h0 h1 (Nat.lt_of_lt_of_le hsb3 hG) hh hns hown hgo hG HZ.out)).mono ?_; rintro e1 w4 ⟨o, er, tc, tb, ho, rfl, _, _, rc, rb, her, hb4⟩; obtain ⟨i1, i2, i3, i4, _, _, _⟩ := id ho)
      go_meet
      rw [i1] at rc
      rw [i2] at rb
      rw [i4] at her
      have her' : er = none := her
      subst her'
      exact ⟨o, tc, tb, ho, rfl, rfl, rfl, rfl, rfl, rfl, rfl, rfl, rfl, rc, rb, hb4⟩
    case rest =>
      obtain ⟨o, tc, tb, ho, rfl, rfl, rfl, rfl, rfl, rfl, rfl, rfl, rfl, rc, rb, hb4⟩ := hcut
      go_step
      exact non_tailA ⟨_, _, _, _, _, _, _, _, _, _, _, _, _, rfl⟩ sb soff n0 n0 s e n1 o.N n1 n1 w.heap.size q1 q2 tc tb f cl bd m b d k o.m o.b o.d o.k o.f w wc hse hen (Nat.le_refl _) h0 h1 hf (hHas3.below hb4 hsb3) (bel3.trans (hb4.mono bel3.size)) ho.pop ho.key ho.bod rc rb (s1b.size hb4) (s2.size hb4)
  · have tz : ((cof (f s) : Int) != 0) = true := by simp; omega
    clear hcz
    go_wp2_with (go_at_call 17; refine (modelCloser_any _ _).mono ?_; rintro e1 w' ⟨rfl, hw'⟩; subst w')
    go_ret
    exact ⟨rfl, bel3⟩
end Go.Proofs.Qxb6601609a
