/-
  mArray, OVER mValue's CONTRACT FURTHER ON.
-/
import Derived.Test.Qxb6601357aMString
namespace Go.Proofs.Qxb6601357a
open Go.RowKit

/-- What mArray, mObject answer. -/
def MA (f : Nat → Nat) (n i : Nat) (w : World) (e : Ending) (w' : World) : Prop :=
  (∃ d, w' = w.drewN d) ∧ ((∃ r : Nat, e = .returned (.tuple #[.int .i64 r, .bool true]) ∧ i < r ∧ r ≤ n ∧ J.Pass f n i r ∧ J.Ret f n i 0 r) ∨ e = .returned (.tuple #[.int .i64 0, .bool false]))
/-- What mValue answers. -/
def MV (f : Nat → Nat) (n i : Nat) (w : World) (e : Ending) (w' : World) : Prop :=
  (∃ d, w' = w.drewN d) ∧ ((∃ (r : Nat) (k : Int), e = .returned (.tuple #[.int .i64 r, .int .i64 k, .bool true]) ∧ J.OkV f n i r k) ∨ ∃ r k : Int, e = .returned (.tuple #[.int .i64 r, .int .i64 k, .bool false]))
/-- mValue's contract at every offset that is at most N ahead of the end. -/
def VC (b off n c : Nat) (f : Nat → Nat) (N : Nat) : Prop :=
  ∀ (j : Nat) (w : World), n ≤ j + N → j ≤ n → Has w b off n f → Calls Try.prog 9 #[.slice (some ⟨b, off, none⟩) n c, .int .i64 j] w (MV f n j w)

theorem skipWS_at (b off n c : Nat) (f : Nat → Nat) (a : Int) (i : Nat) (w : World) (hn : n ≤ 1048576) (ha : a = (i : Int)) (hi : i ≤ n) (h : Has w b off n f) :
    Calls Try.prog 29 #[.slice (some ⟨b, off, none⟩) n c, .int .i64 a] w (SW f n i w) := by
  subst ha; exact skipWS_any b off n c f i w hn hi h

theorem pass_ws {f : Nat → Nat} {n i r : Nat} (h1 : i ≤ r) (h2 : r ≤ n) (h : ∀ t, i ≤ t → t < r → J.Ws (f t)) : J.Pass f n i r :=
  J.Pass.run h1 h2 (fun j a b => J.ws_inert (h j a b))
theorem MA.no {f : Nat → Nat} {n i : Nat} {w : World} {d : Nat} : MA f n i w (.returned (.tuple #[.int .i64 0, .bool false])) (w.drewN d) := ⟨⟨d, rfl⟩, .inr rfl⟩
theorem MA.yes {f : Nat → Nat} {n i q : Nat} {w : World} {d : Nat} (hiq : i < q) (hq : q < n) (ho : f i = 123 ∨ f i = 91) (hc : f q = 125 ∨ f q = 93) (h : J.Pass f n (i + 1) q) :
    MA f n i w (.returned (.tuple #[.int .i64 ((q + 1 : Nat) : Int), .bool true])) (w.drewN d) := by
  have k := J.Pass.bracket hiq hq ho hc h
  exact ⟨⟨d, rfl⟩, .inl ⟨q + 1, rfl, by omega, by omega, k.1, k.2⟩⟩

set_option maxHeartbeats 1600000 in
theorem mArray_step (b off n c : Nat) (f : Nat → Nat) (N : Nat) (hV : VC b off n c f N) (i : Nat) (w : World) (hn : n ≤ 1048576) (hi : i < n) (hN : n ≤ i + N + 1) (hop : f i = 91) (h : Has w b off n f) :
    Calls Try.prog 19 #[.slice (some ⟨b, off, none⟩) n c, .int .i64 i] w (MA f n i w) := by
  have HO : Hid (f i = 91) := hop
  clear hop
  go_enter Try.func19, Try.ntmps19
  go_wp2_with fail
  refine (skipWS_at b off n c f _ (i + 1) w hn (by omega) (by omega) h).mono ?_
  rintro e w' ⟨r, rfl, hw', r1, r2, r3⟩
  subst w'
  have hp := pass_ws r1 r2 r3
  clear r3
  by_cases hr : r < n
  · have hc1 := h.cell r hr
    have g0 : (0 : Int) ≤ (r : Int) := by omega
    have g1 : (r : Int) < (n : Int) := by omega
    by_cases c1 : f r = 93
    · have t1 : ((f r : Int) == 93) = true := eqt (k := 93) c1
      have HC : Hid (f r = 93) := c1
      clear c1
      go_wp2_with fail
      go_ret2
      exact MA.yes (d := 0) (by omega) hr (.inr HO.out) (.inr HC.out) hp
    · have t1 : ((f r : Int) == 93) = false := eqf (k := 93) c1
      clear c1
      go_wp2_with fail
      go_loopw [6] (fun t wr => ∃ j d : Nat, t = .int .i64 j ∧ i < j ∧ j ≤ n ∧ J.Pass f n (i + 1) j ∧ wr = w.drewN d) (fun t _ => n - (intOf t).toNat)
      case atStart => exact ⟨r, 0, rfl, by omega, r2, hp, rfl⟩
      case round =>
        obtain ⟨j, d, rfl, j1, j2, hpj, rfl⟩ := hrel
        clear hp hc1 t1 g0 g1 hr r1 r2
        by_cases hlt : j < n
        · go_wp2_with fail
          refine (hV j (w.drewN d) (by omega) j2 (h.drewN d)).mono ?_
          rintro e w' ⟨⟨d2, rfl⟩, hq⟩
          rcases hq with ⟨r, k, rfl, hok⟩ | ⟨r, k, rfl⟩
          · have o1 := hok.lt
            have o2 := hok.le
            go_wp2_with fail
            refine (skipWS_at b off n c f _ r _ hn rfl o2 (h.drewN (d + d2))).mono ?_
            rintro e w' ⟨q, rfl, hw', q1, q2, q3⟩
            subst w'
            have hpq := (hpj.trans hok.pass).trans (pass_ws q1 q2 q3)
            clear q3 hok hpj
            by_cases hql : q < n
            · have hc1 := h.cell q hql
              have g0 : (0 : Int) ≤ (q : Int) := by omega
              have g1 : (q : Int) < (n : Int) := by omega
              by_cases c1 : f q = 93
              · have t1 : ((f q : Int) == 93) = true := eqt (k := 93) c1
                have HC : Hid (f q = 93) := c1
                clear c1
                go_wp2_with fail
                go_ret2
                exact MA.yes (by omega) hql (.inr HO.out) (.inr HC.out) hpq
              · have t1 : ((f q : Int) == 93) = false := eqf (k := 93) c1
                by_cases c2 : f q = 44
                · have t2 : ((f q : Int) != 44) = false := nef (k := 44) c2
                  have hin : J.Pass f n q (q + 1) := J.Pass.one hql (by rw [c2]; unfold J.Inert; omega)
                  clear c1 c2
                  go_wp2_with fail
                  refine (skipWS_at b off n c f _ (q + 1) _ hn (by omega) (by omega) (h.drewN (d + d2))).mono ?_
                  rintro e w' ⟨s, rfl, hw', s1, s2, s3⟩
                  subst w'
                  have hps := (hpq.trans hin).trans (pass_ws s1 s2 s3)
                  clear s3
                  go_wp2_with fail
                  go_roundw
                  case rel => exact ⟨s, d + d2, rfl, by omega, s2, hps, rfl⟩
                  case measure => simp [intOf]; omega
                · have t2 : ((f q : Int) != 44) = true := net (k := 44) c2
                  clear c1 c2
                  go_wp2_with fail
                  go_ret2
                  exact MA.no
            · go_wp2_with fail
              go_ret2
              exact MA.no
          · go_wp2_with fail
            go_ret2
            exact MA.no
        · go_wp2_with fail
          go_ret2
          exact MA.no
  · have hd : decide ((r : Int) < (n : Int)) = false := by simp; omega
    go_wp2_with fail
    refine wp_loop_rounds 1 ?_
    rw [rounds_succ]
    go_wp2_with fail
    go_ret2
    exact MA.no (d := 0)
end Go.Proofs.Qxb6601357a
