import Derived.Test.Qxb6601609aTake9
namespace Go.Proofs.Qxb6601609a
open Go.RowKit
set_option linter.unusedVariables false

set_option maxRecDepth 100000 in
set_option maxHeartbeats 3200000 in
theorem takeO1 (G lo sb soff sn sc s e : Nat) (ov : Value) (N : Nat) (cl : Nat → Nat) (bd : Nat → Bool) (f : Nat → Nat) (m b d k mf : Int) (w : World) (hse : s < e) (hen : e ≤ sn) (hnc : sn ≤ sc) (hsn : sn ≤ 65536) (hN : N ≤ 4096)
    (hsb : sb < G) (h : Has w sb soff sn f) (hns : NS w G (.slice (some ⟨sb, soff, none⟩) sn sc) ov m b d k mf) (hown : w.ownsRow lo 47 2 ov N (brs cl bd N)) (hgo : ∀ g, ov.ownBlock = some g → g < G)
    (hG : lo ≤ G) (hcz : cof (f s) ≠ 0) (hN1 : N = 100) :
    Calls Try.prog 30 #[.pointer (some ⟨G, 0, none⟩), .int .i64 s, .int .i64 e] w (TU G lo (.slice (some ⟨sb, soff, none⟩) sn sc) (OpenSpec f s N cl bd m b d mf) w) := by
  have tz : ((cof (f s) : Int) != 0) = true := by simp; omega
  have tN : ((N : Int) == 100) = true := by simp; omega
  have HN : Hid (N = 100) := hN1
  clear hN1 hcz
  have c0 := hns.c0
  have c5 := hns.c5
  have c6 := hns.c6
  have z5 := hns.fz 5
  have z6 := hns.fz 6
  have g0 : (0 : Int) ≤ (s : Int) := by omega
  have g1 : (s : Int) ≤ (e : Int) := by omega
  have g2 : (e : Int) ≤ (sc : Int) := by omega
  have g3 : (e : Int) ≤ (sn : Int) := by omega
  go_enter Try.func30, Try.ntmps30
  go_wp2_with fail
  go_quiet (fail)
  have hc1 : w.cell? ⟨sb, soff + s, none⟩ = some (.int .u8 (f s)) := h.cell s (by omega)
  go_wp2_with fail
  refine (closerOf_any _ _).mono ?_
  rintro e1 w' ⟨rfl, hw'⟩
  subst w'
  have hns1 : NS (((w.drewN nq).setCell ⟨G, 5, none⟩ (.int .i64 (-1))).setCell ⟨G, 6, none⟩ (.int .i64 (-1))) G (.slice (some ⟨sb, soff, none⟩) sn sc) ov m b d (-1) (-1) := ((hns.drewN nq).s5 (-1)).s6 (-1)
  have hb1 : Below G w (((w.drewN nq).setCell ⟨G, 5, none⟩ (.int .i64 (-1))).setCell ⟨G, 6, none⟩ (.int .i64 (-1))) := ((below_dr (Below.refl G w) nq).setCell (p := ⟨G, 5, none⟩) (Nat.le_refl _) _).setCell (p := ⟨G, 6, none⟩) (Nat.le_refl _) _
  generalize ((w.drewN nq).setCell ⟨G, 5, none⟩ (.int .i64 (-1))).setCell ⟨G, 6, none⟩ (.int .i64 (-1)) = w1 at *
  have hown1 := own_below hown hgo hb1
  have hh1 := h.below hb1 hsb
  have hc2 : w1.cell? ⟨sb, soff + s, none⟩ = some (.int .u8 (f s)) := hh1.cell s (by omega)
  have d1 := hns1.c1
  have d2 := hns1.c2
  have d3 := hns1.c3
  have d4 := hns1.c4
  have z1 := hns1.fz 1
  have z2 := hns1.fz 2
  have z3 := hns1.fz 3
  have z4 := hns1.fz 4
  have y5 := hns1.fz 5
  have y6 := hns1.fz 6
  have d5 := hns1.c5
  have d6 := hns1.c6
  have g4 : (0 : Int) < (e : Int) - (s : Int) := by omega
  clear c0 c5 c6 z5 z6 hc1 hown h hns
  obtain ⟨oa, cap, hov, hNc, hrd⟩ := open_read hown1
  have d1' : w1.cell? ⟨G, 1, none⟩ = some (.slice oa N cap) := by rw [← hov]; exact d1
  clear d1
  go_wp2_with fail
  go_ret2
  refine ⟨⟨N, cl, bd, m, b, d, -1, -1, s, some (⟨#[110, 101, 115, 116, 105, 110, 103]⟩, 101, 100)⟩, ov, _, .inl ⟨HN.out, rfl, rfl, rfl⟩, rfl, hown1.alloc _, ?_, (hb1.mono hG).alloc (Nat.le_trans hG (Nat.le_of_lt hns1.lt)) _, ⟨_, rfl, heap_alloc_new w1 _⟩⟩
  have := hns1
  unfold NS at this ⊢
  rw [Below.heap_alloc _ _ _ hns1.lt]
  exact this
set_option maxRecDepth 100000 in
set_option maxHeartbeats 3200000 in
theorem takeO2 (G lo sb soff sn sc s e : Nat) (ov : Value) (N : Nat) (cl : Nat → Nat) (bd : Nat → Bool) (f : Nat → Nat) (m b d k mf : Int) (w : World) (hse : s < e) (hen : e ≤ sn) (hnc : sn ≤ sc) (hsn : sn ≤ 65536) (hN : N ≤ 4096)
    (hsb : sb < G) (h : Has w sb soff sn f) (hns : NS w G (.slice (some ⟨sb, soff, none⟩) sn sc) ov m b d k mf) (hown : w.ownsRow lo 47 2 ov N (brs cl bd N)) (hgo : ∀ g, ov.ownBlock = some g → g < G)
    (hG : lo ≤ G) (hcz : cof (f s) ≠ 0) (hN1 : N ≠ 100) :
    Calls Try.prog 30 #[.pointer (some ⟨G, 0, none⟩), .int .i64 s, .int .i64 e] w (TU G lo (.slice (some ⟨sb, soff, none⟩) sn sc) (OpenSpec f s N cl bd m b d mf) w) := by
  have tz : ((cof (f s) : Int) != 0) = true := by simp; omega
  have tN : ((N : Int) == 100) = false := by simp; omega
  have HN : Hid (N ≠ 100) := hN1
  clear hN1 hcz
  have h0 := h
  have c0 := hns.c0
  have c5 := hns.c5
  have c6 := hns.c6
  have z5 := hns.fz 5
  have z6 := hns.fz 6
  have g0 : (0 : Int) ≤ (s : Int) := by omega
  have g1 : (s : Int) ≤ (e : Int) := by omega
  have g2 : (e : Int) ≤ (sc : Int) := by omega
  have g3 : (e : Int) ≤ (sn : Int) := by omega
  go_enter Try.func30, Try.ntmps30
  go_wp2_with fail
  go_quiet (fail)
  have hc1 : w.cell? ⟨sb, soff + s, none⟩ = some (.int .u8 (f s)) := h.cell s (by omega)
  go_wp2_with fail
  refine (closerOf_any _ _).mono ?_
  rintro e1 w' ⟨rfl, hw'⟩
  subst w'
  have hns1 : NS (((w.drewN nq).setCell ⟨G, 5, none⟩ (.int .i64 (-1))).setCell ⟨G, 6, none⟩ (.int .i64 (-1))) G (.slice (some ⟨sb, soff, none⟩) sn sc) ov m b d (-1) (-1) := ((hns.drewN nq).s5 (-1)).s6 (-1)
  have hb1 : Below G w (((w.drewN nq).setCell ⟨G, 5, none⟩ (.int .i64 (-1))).setCell ⟨G, 6, none⟩ (.int .i64 (-1))) := ((below_dr (Below.refl G w) nq).setCell (p := ⟨G, 5, none⟩) (Nat.le_refl _) _).setCell (p := ⟨G, 6, none⟩) (Nat.le_refl _) _
  generalize ((w.drewN nq).setCell ⟨G, 5, none⟩ (.int .i64 (-1))).setCell ⟨G, 6, none⟩ (.int .i64 (-1)) = w1 at *
  have hown1 := own_below hown hgo hb1
  have hh1 := h.below hb1 hsb
  have hc2 : w1.cell? ⟨sb, soff + s, none⟩ = some (.int .u8 (f s)) := hh1.cell s (by omega)
  have d1 := hns1.c1
  have d2 := hns1.c2
  have d3 := hns1.c3
  have d4 := hns1.c4
  have z1 := hns1.fz 1
  have z2 := hns1.fz 2
  have z3 := hns1.fz 3
  have z4 := hns1.fz 4
  have y5 := hns1.fz 5
  have y6 := hns1.fz 6
  have d5 := hns1.c5
  have d6 := hns1.c6
  have g4 : (0 : Int) < (e : Int) - (s : Int) := by omega
  clear c0 c5 c6 z5 z6 hc1 hown h hns
  obtain ⟨oa, cap, hov, hNc, hrd⟩ := open_read hown1
  have d1' : w1.cell? ⟨G, 1, none⟩ = some (.slice oa N cap) := by rw [← hov]; exact d1
  clear d1
  have lG := hns1.lt
  have lsb : sb < w1.heap.size := by omega
  have hA := fun o => NS.alloc hns1 o
  go_upto_region 8 with fail
  go_cut [12] (fun t wx => ∃ BF Bk, t = .pointer (some ⟨Bk, 0, none⟩) ∧ wx.heap[Bk]? = some (.cells #[.int .u8 (cof (f s)), .bool BF] 47 (0, 0)) ∧ G < Bk ∧ (BF = true → (f s = 123 ∧ b = N)) ∧ NS wx G (.slice (some ⟨sb, soff, none⟩) sn sc) ov m b d (-1) (-1) ∧ wx.ownsRow lo 47 2 ov N (brs cl bd N) ∧ Below G w wx)
  case first =>
    by_cases h1 : f s = 123
    · have H1 : Hid (f s = 123) := h1
      have t1 : ((f s : Int) == 123) = true := by simp [h1]
      clear h1
      by_cases h2 : b = N
      · have H2 : Hid (b = N) := h2
        have t2 : (b == (N : Int)) = true := by simp [h2]
        clear h2
        go_region
        go_wp2_with fail
        go_meet
        exact ⟨true, w1.heap.size, rfl, heap_alloc_new w1 _, lG, fun _ => ⟨H1.out, H2.out⟩, hA _, (hown1.alloc _).drew, (hb1.alloc (Nat.le_of_lt lG) _).drew⟩
      · have t2 : (b == (N : Int)) = false := by simp [h2]
        clear h2
        go_region
        go_wp2_with fail
        go_meet
        exact ⟨false, w1.heap.size, rfl, heap_alloc_new w1 _, lG, (fun e => by cases e), hA _, (hown1.alloc _).drew, (hb1.alloc (Nat.le_of_lt lG) _).drew⟩
    · have t1 : ((f s : Int) == 123) = false := by simp; omega
      clear h1
      go_region
      go_wp2_with fail
      go_meet
      exact ⟨false, w1.heap.size, rfl, heap_alloc_new w1 _, lG, (fun e => by cases e), hA _, (hown1.alloc _).drew, (hb1.alloc (Nat.le_of_lt lG) _).drew⟩
  case rest =>
    obtain ⟨BF, Bk, rfl, hBk, hGB, hBF, hns2, hown2, hb2⟩ := hcut
    have hc3 : wc.cell? ⟨sb, soff + s, none⟩ = some (.int .u8 (f s)) := (h0.below hb2 hsb).cell s (by omega)
    go_step
    exact take9 ⟨_, _, _, _, _, _, _, _, _, _, rfl⟩ G lo Bk sb (soff + s) (e - s) _ _ ov N cl bd BF f s m b d mf w wc hN HN.out hBk hGB hns2 hown2 hgo hG (hb2.mono hG) hBF (by omega) hc3 _

theorem take_open (G lo sb soff sn sc s e : Nat) (ov : Value) (N : Nat) (cl : Nat → Nat) (bd : Nat → Bool) (f : Nat → Nat) (m b d k mf : Int) (w : World) (hse : s < e) (hen : e ≤ sn) (hnc : sn ≤ sc) (hsn : sn ≤ 65536) (hN : N ≤ 4096)
    (hsb : sb < G) (h : Has w sb soff sn f) (hns : NS w G (.slice (some ⟨sb, soff, none⟩) sn sc) ov m b d k mf) (hown : w.ownsRow lo 47 2 ov N (brs cl bd N)) (hgo : ∀ g, ov.ownBlock = some g → g < G)
    (hG : lo ≤ G) (hcz : cof (f s) ≠ 0) :
    Calls Try.prog 30 #[.pointer (some ⟨G, 0, none⟩), .int .i64 s, .int .i64 e] w (TU G lo (.slice (some ⟨sb, soff, none⟩) sn sc) (OpenSpec f s N cl bd m b d mf) w) := by
  by_cases hN1 : N = 100
  · exact takeO1 G lo sb soff sn sc s e ov N cl bd f m b d k mf w hse hen hnc hsn hN hsb h hns hown hgo hG hcz hN1
  · exact takeO2 G lo sb soff sn sc s e ov N cl bd f m b d k mf w hse hen hnc hsn hN hsb h hns hown hgo hG hcz hN1
end Go.Proofs.Qxb6601609a
