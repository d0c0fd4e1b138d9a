/-
  mObject, OVER mValue's CONTRACT FURTHER ON.
-/
import Derived.Test.Qxb6601357aMArray
namespace Go.Proofs.Qxb6601357a
open Go.RowKit

set_option maxRecDepth 100000 in
set_option maxHeartbeats 1600000 in
theorem mObject_step (b off n c : Nat) (f : Nat → Nat) (hf : ∀ i, f i < 256) (N : Nat) (hV : VC b off n c f N) (i : Nat) (w : World) (hn : n ≤ 1048576) (hi : i < n) (hN : n ≤ i + N + 1) (hop : f i = 123) (h : Has w b off n f) :
    Calls Try.prog 20 #[.slice (some ⟨b, off, none⟩) n c, .int .i64 i] w (MA f n i w) := by
  have HO : Hid (f i = 123) := hop
  clear hop
  go_enter Try.func20, Try.ntmps20
  go_wp2_with fail
  refine (skipWS_at b off n c f _ (i + 1) w hn (by omega) (by omega) h).mono ?_
  rintro e w' ⟨r, rfl, hw', r1, r2, r3⟩
  subst w'
  have hp := pass_ws r1 r2 r3
  clear r3
  by_cases hr : r < n
  · have hc1 := h.cell r hr
    have g0 : (0 : Int) ≤ (r : Int) := by omega
    have g1 : (r : Int) < (n : Int) := by omega
    by_cases c1 : f r = 125
    · have t1 : ((f r : Int) == 125) = true := eqt (k := 125) c1
      have HC : Hid (f r = 125) := c1
      clear c1
      go_wp2_with fail
      go_ret2
      exact MA.yes (d := 0) (by omega) hr (.inl HO.out) (.inl HC.out) hp
    · have t1 : ((f r : Int) == 125) = false := eqf (k := 125) c1
      clear c1
      go_wp2_with fail
      go_loopw [6] (fun t wr => ∃ j d : Nat, t = .int .i64 j ∧ i < j ∧ j ≤ n ∧ J.Pass f n (i + 1) j ∧ wr = w.drewN d) (fun t _ => n - (intOf t).toNat)
      case atStart => exact ⟨r, 0, rfl, by omega, r2, hp, rfl⟩
      case round =>
        obtain ⟨j, d, rfl, j1, j2, hpj, rfl⟩ := hrel
        clear hp hc1 t1 g0 g1 hr r1 r2
        by_cases hlt : j < n
        · have hcj := h.cell j hlt
          have y0 : (0 : Int) ≤ (j : Int) := by omega
          have y1 : (j : Int) < (n : Int) := by omega
          by_cases cq : f j = 34
          · have t0 : ((f j : Int) != 34) = false := nef (k := 34) cq
            have HQ : Hid (f j = 34) := cq
            clear cq
            go_wp2_with fail
            refine (mString_any b off n c f hf j _ hn hlt (h.drewN d)).mono ?_
            rintro e w' (⟨ke, hke, rfl, hw'⟩ | ⟨_, rfl, hw'⟩)
            · subst w'
              have hsr := J.strM_ret _ _ _ hke
              have hpk := hpj.trans (J.Pass.str hlt HQ.out hsr)
              have kb1 := hsr.bounds.1
              have kb2 := hsr.bounds.2
              clear hke hsr hpj
              go_wp2_with fail
              refine (skipWS_at b off n c f _ ke _ hn rfl kb2 (h.drewN d)).mono ?_
              rintro e w' ⟨q, rfl, hw', q1, q2, q3⟩
              subst w'
              have hpq := hpk.trans (pass_ws q1 q2 q3)
              clear q3 hpk
              by_cases hql : q < n
              · have hc1 := h.cell q hql
                have g0 : (0 : Int) ≤ (q : Int) := by omega
                have g1 : (q : Int) < (n : Int) := by omega
                have g2 : decide ((n : Int) ≤ (q : Int)) = false := by simp; omega
                by_cases c1 : f q = 58
                · have t1 : ((f q : Int) != 58) = false := nef (k := 58) c1
                  have hin : J.Pass f n q (q + 1) := J.Pass.one hql (by rw [c1]; unfold J.Inert; omega)
                  clear c1
                  go_wp2_with fail
                  refine (skipWS_at b off n c f _ (q + 1) _ hn (by omega) (by omega) (h.drewN d)).mono ?_
                  rintro e w' ⟨s, rfl, hw', s1, s2, s3⟩
                  subst w'
                  have hps := (hpq.trans hin).trans (pass_ws s1 s2 s3)
                  clear s3 hpq hin
                  go_wp2_with fail
                  refine (hV s (w.drewN d) (by omega) s2 (h.drewN d)).mono ?_
                  rintro e w' ⟨⟨d2, rfl⟩, hv⟩
                  rcases hv with ⟨r, k, rfl, hok⟩ | ⟨r, k, rfl⟩
                  · have o1 := hok.lt
                    have o2 := hok.le
                    clear t0 t1 hc1 hcj g0 g1 g2 y0 y1
                    go_wp2_with fail
                    refine (skipWS_at b off n c f _ r _ hn rfl o2 (h.drewN (d + d2))).mono ?_
                    rintro e w' ⟨x, rfl, hw', x1, x2, x3⟩
                    subst w'
                    have hpx := (hps.trans hok.pass).trans (pass_ws x1 x2 x3)
                    clear x3 hok hps
                    by_cases hxl : x < n
                    · have hc1 := h.cell x hxl
                      have g0 : (0 : Int) ≤ (x : Int) := by omega
                      have g1 : (x : Int) < (n : Int) := by omega
                      by_cases c1 : f x = 125
                      · have t1 : ((f x : Int) == 125) = true := eqt (k := 125) c1
                        have HC : Hid (f x = 125) := c1
                        clear c1
                        go_wp2_with fail
                        go_ret2
                        exact MA.yes (by omega) hxl (.inl HO.out) (.inl HC.out) hpx
                      · have t1 : ((f x : Int) == 125) = false := eqf (k := 125) c1
                        by_cases c2 : f x = 44
                        · have t2 : ((f x : Int) != 44) = false := nef (k := 44) c2
                          have hin : J.Pass f n x (x + 1) := J.Pass.one hxl (by rw [c2]; unfold J.Inert; omega)
                          clear c1 c2
                          go_wp2_with fail
                          refine (skipWS_at b off n c f _ (x + 1) _ hn (by omega) (by omega) (h.drewN (d + d2))).mono ?_
                          rintro e w' ⟨z, rfl, hw', z1, z2, z3⟩
                          subst w'
                          have hpz := (hpx.trans hin).trans (pass_ws z1 z2 z3)
                          clear z3
                          go_wp2_with fail
                          go_roundw
                          case rel => exact ⟨z, d + d2, rfl, by omega, z2, hpz, rfl⟩
                          case measure => simp [intOf]; omega
                        · have t2 : ((f x : Int) != 44) = true := net (k := 44) c2
                          clear c1 c2
                          go_wp2_with fail
                          go_ret2
                          exact MA.no
                    · go_wp2_with fail
                      go_ret2
                      exact MA.no
                  · go_wp2_with fail
                    go_ret2
                    exact MA.no
                · have t1 : ((f q : Int) != 58) = true := net (k := 58) c1
                  clear c1
                  go_wp2_with fail
                  go_ret2
                  exact MA.no
              · have g2 : decide ((n : Int) ≤ (q : Int)) = true := by simp; omega
                go_wp2_with fail
                go_ret2
                exact MA.no
            · subst w'
              go_wp2_with fail
              go_ret2
              exact MA.no
          · have t0 : ((f j : Int) != 34) = true := net (k := 34) cq
            clear cq
            go_wp2_with fail
            go_ret2
            exact MA.no
        · go_wp2_with fail
          go_ret2
          exact MA.no
  · have hd : decide ((r : Int) < (n : Int)) = false := by simp; omega
    go_wp2_with fail
    refine wp_loop_rounds 1 ?_
    rw [rounds_succ]
    go_wp2_with fail
    go_ret2
    exact MA.no (d := 0)
end Go.Proofs.Qxb6601357a
