import Derived.Test.Qxb6601609aTakeDefs
namespace Go.Proofs.Qxb6601609a
open Go.RowKit
set_option linter.unusedVariables false

/-- A semicolon. -/
def bB (N : Nat) (b : Int) : Int := if b = (N : Int) then -1 else b
theorem bB_pos {N : Nat} {b : Int} (h : b = (N : Int)) : bB N b = -1 := if_pos h
theorem bB_neg {N : Nat} {b : Int} (h : ¬ b = (N : Int)) : bB N b = b := if_neg h

set_option maxRecDepth 100000 in
set_option maxHeartbeats 3200000 in
theorem takeB (G lo sb soff sn sc s e : Nat) (ov : Value) (N : Nat) (cl : Nat → Nat) (bd : Nat → Bool) (f : Nat → Nat) (m b d k mf : Int) (w : World) (hse : s < e) (hen : e ≤ sn) (hnc : sn ≤ sc) (hsn : sn ≤ 65536) (hN : N ≤ 4096)
    (hsb : sb < G) (h : Has w sb soff sn f) (hns : NS w G (.slice (some ⟨sb, soff, none⟩) sn sc) ov m b d k mf) (hown : w.ownsRow lo 47 2 ov N (brs cl bd N)) (hgo : ∀ g, ov.ownBlock = some g → g < G)
    (hcl : f s = 59) :
    Calls Try.prog 30 #[.pointer (some ⟨G, 0, none⟩), .int .i64 s, .int .i64 e] w (TN G lo (.slice (some ⟨sb, soff, none⟩) sn sc) cl bd ⟨N, m, bB N b, d, -1, -1⟩ w) := by
  have hcz : cof (f s) = 0 := by unfold cof; rw [if_neg (by omega), if_neg (by omega), if_neg (by omega), if_neg (by omega)]
  have HCL : Hid (f s = 59) := hcl
  clear hcl
  have c0 := hns.c0
  have c5 := hns.c5
  have c6 := hns.c6
  have z5 := hns.fz 5
  have z6 := hns.fz 6
  have g0 : (0 : Int) ≤ (s : Int) := by omega
  have g1 : (s : Int) ≤ (e : Int) := by omega
  have g2 : (e : Int) ≤ (sc : Int) := by omega
  have g3 : (e : Int) ≤ (sn : Int) := by omega
  go_enter Try.func30, Try.ntmps30
  go_wp2_with fail
  go_quiet (fail)
  have hc1 : w.cell? ⟨sb, soff + s, none⟩ = some (.int .u8 (f s)) := h.cell s (by omega)
  go_wp2_with fail
  refine (closerOf_zero _ _ hcz).mono ?_
  rintro e1 w' ⟨rfl, hw'⟩
  subst w'
  have hns1 : NS (((w.drewN nq).setCell ⟨G, 5, none⟩ (.int .i64 (-1))).setCell ⟨G, 6, none⟩ (.int .i64 (-1))) G (.slice (some ⟨sb, soff, none⟩) sn sc) ov m b d (-1) (-1) := ((hns.drewN nq).s5 (-1)).s6 (-1)
  have hb1 : Below G w (((w.drewN nq).setCell ⟨G, 5, none⟩ (.int .i64 (-1))).setCell ⟨G, 6, none⟩ (.int .i64 (-1))) := ((below_dr (Below.refl G w) nq).setCell (p := ⟨G, 5, none⟩) (Nat.le_refl _) _).setCell (p := ⟨G, 6, none⟩) (Nat.le_refl _) _
  generalize ((w.drewN nq).setCell ⟨G, 5, none⟩ (.int .i64 (-1))).setCell ⟨G, 6, none⟩ (.int .i64 (-1)) = w1 at *
  have hown1 := own_below hown hgo hb1
  have hh1 := h.below hb1 hsb
  have hc2 : w1.cell? ⟨sb, soff + s, none⟩ = some (.int .u8 (f s)) := hh1.cell s (by omega)
  have d1 := hns1.c1
  have d2 := hns1.c2
  have d3 := hns1.c3
  have d4 := hns1.c4
  have z1 := hns1.fz 1
  have z2 := hns1.fz 2
  have z3 := hns1.fz 3
  have z4 := hns1.fz 4
  have y5 := hns1.fz 5
  have y6 := hns1.fz 6
  have d5 := hns1.c5
  have d6 := hns1.c6
  have g4 : (0 : Int) < (e : Int) - (s : Int) := by omega
  clear c0 c5 c6 z5 z6 hc1 hown h hns
  obtain ⟨oa, cap, rfl, hNc, hrd⟩ := open_read hown1
  go_upto_if 166 with fail
  go_cut [166] (fun t wx => wx = w1 ∧ t = .bool false)
  case first =>
    have hcl := HCL.out
    have t1 : ((f s : Int) == 125) = false := eqf (k := 125) (by omega)
    have t2 : ((f s : Int) == 93) = false := eqf (k := 93) (by omega)
    have t3 : ((f s : Int) == 41) = false := eqf (k := 41) (by omega)
    have t4 : ((f s : Int) == 62) = false := eqf (k := 62) (by omega)
    clear hcl
    go_wp2_with fail
    go_meet
    exact ⟨rfl, rfl⟩
  case rest =>
    obtain ⟨hwc, rfl⟩ := hcut
    subst wc
    have t5 : ((f s : Int) == 59) = true := eqt (k := 59) HCL.out
    by_cases hlt : b = (N : Int)
    · have t0 : (b == (N : Int)) = true := by simp [hlt]
      have HLT : Hid (b = (N : Int)) := hlt
      clear hlt
      go_wp2_with fail
      go_quiet (fail)
      go_wp2_with fail
      go_ret2
      rw [bB_pos HLT.out]
      exact ⟨_, rfl, own_below hown1 hgo ((below_dr (Below.refl G w1) _).setCell (p := ⟨G, 3, none⟩) (Nat.le_refl _) _), hgo, (hns1.drewN _).s3 _, hb1.trans ((below_dr (Below.refl G w1) _).setCell (p := ⟨G, 3, none⟩) (Nat.le_refl _) _)⟩
    · have t0 : (b == (N : Int)) = false := by simp [hlt]
      have HLT : Hid (¬ b = (N : Int)) := hlt
      clear hlt
      go_wp2_with fail
      go_quiet (fail)
      go_wp2_with fail
      go_ret2
      rw [bB_neg HLT.out]
      exact ⟨_, rfl, hown1, hgo, hns1.drewN _, below_dr hb1 _⟩
end Go.Proofs.Qxb6601609a
