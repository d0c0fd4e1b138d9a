import Derived.Test.Qxb6601609aNonTailB
namespace Go.Proofs.Qxb6601609a
open Go.RowKit
set_option linter.unusedVariables false

/-- Where token i starts. -/
def st (E : Nat → Nat) : Nat → Nat
  | 0 => 0
  | i + 1 => E i

theorem st_lt {E : Nat → Nat} {n : Nat} (hE : ∀ i, i < n → st E i < E i) : ∀ {p q : Nat}, p < q → q ≤ n → st E p < st E q := by
  intro p q hpq hq
  induction q with
  | zero => omega
  | succ q ih =>
    by_cases e : p = q
    · subst e; exact hE p (by omega)
    · exact Nat.lt_trans (ih (by omega) (by omega)) (hE q (by omega))

set_option maxRecDepth 100000 in
set_option maxHeartbeats 1600000 in
theorem kwAt_any (sb soff sn sc : Nat) (ea : Option Addr) (n ec p : Nat) (f E : Nat → Nat) (w : World) (hn : n ≤ 4096) (hsn : sn ≤ 65536) (hnc : sn ≤ sc) (hf : ∀ i, f i < 256)
    (hE : ∀ i, i < n → st E i < E i ∧ E i ≤ sn) (h : Has w sb soff sn f) (he : Rd w ea n (fun i => .int .i64 (E i))) (hp : p < n) (htok : MsgTok f (st E p) (E p) ∨ MapTok f (st E p) (E p)) :
    Calls Try.prog 19 #[.slice (some ⟨sb, soff, none⟩) sn sc, .slice ea n ec, .int .i64 (st E p)] w fun e w' => e = .returned (.bool true) ∧ Dr w w' := by
  obtain ⟨eb, eo, rfl, hel, hec⟩ := he.at_ (by omega)
  have HT : Hid (MsgTok f (st E p) (E p) ∨ MapTok f (st E p) (E p)) := htok
  clear htok
  go_enter Try.func19, Try.ntmps19
  go_wp2_with fail
  go_loopw [7, 8] (fun a i wr => ∃ q : Nat, q ≤ p ∧ a = .int .i64 (st E q) ∧ i = .int .i64 q ∧ wr = w) (fun _ i _ => n - (intOf i).toNat)
  case atStart => exact ⟨0, by omega, rfl, rfl, rfl⟩
  case round =>
    obtain ⟨q, hq, rfl, rfl, hwr⟩ := hrel
    subst wr
    have x1 : w.cell? ⟨eb, eo + q, none⟩ = some (.int .i64 (E q)) := hec q (by omega)
    have g0 : (0 : Int) ≤ (q : Int) := by omega
    have g1 : (q : Int) < (n : Int) := by omega
    by_cases hqp : q = p
    · subst hqp
      have hh := hE q hp
      have t1 : ((st E q : Int) == (st E q : Int)) = true := by simp
      have g2 : (0 : Int) ≤ (st E q : Int) := by omega
      have g3 : (st E q : Int) ≤ (E q : Int) := by omega
      have g4 : (E q : Int) ≤ (sc : Int) := by omega
      have hen := hh.2
      generalize hs : st E q = s at *
      generalize E q = e at *
      clear hec hE hs
      rcases HT.out with (e3 | e3) | e3
      · have q1 := tokB_yes e3
        clear e3
        go_wp2_with (go_at_call 24; refine (same_b sb soff sn _ s e f _ _ hen hsn (by decide) hf (by first | exact h | exact h.drewN _)).mono ?_; rintro e1 w' ⟨rfl, dd, hw'⟩; subst w')
        go_ret
        exact ⟨rfl, (Dr.refl _).drewN _⟩
      · have q1 : tokB f s e ⟨#[109, 101, 115, 115, 97, 103, 101]⟩ = false := tokB_no (by rw [e3]; exact msg_ne)
        have q2 := tokB_yes e3
        clear e3
        go_wp2_with (go_at_call 24; refine (same_b sb soff sn _ s e f _ _ hen hsn (by decide) hf (by first | exact h | exact h.drewN _)).mono ?_; rintro e1 w' ⟨rfl, dd, hw'⟩; subst w')
        go_ret
        exact ⟨rfl, (Dr.refl _).drewN _⟩
      · have q1 : tokB f s e ⟨#[109, 101, 115, 115, 97, 103, 101]⟩ = false := tokB_no (by rw [e3]; decide)
        have q2 : tokB f s e ⟨#[103, 114, 111, 117, 112]⟩ = false := tokB_no (by rw [e3]; decide)
        have q3 := tokB_yes e3
        clear e3
        go_wp2_with (go_at_call 24; refine (same_b sb soff sn _ s e f _ _ hen hsn (by decide) hf (by first | exact h | exact h.drewN _)).mono ?_; rintro e1 w' ⟨rfl, dd, hw'⟩; subst w')
        go_ret
        exact ⟨rfl, (Dr.refl _).drewN _⟩
    · have hlt := st_lt (fun i hi => (hE i hi).1) (show q < p by omega) (by omega)
      have t1 : ((st E q : Int) == (st E p : Int)) = false := by simp; omega
      have HQ : Hid (st E (q + 1) = E q) := rfl
      clear hec
      go_wp2_with fail
      go_roundw
      case rel => exact ⟨q + 1, by omega, by rw [HQ.out], by go_num, trivial⟩
      case measure => simp [intOf]; omega
end Go.Proofs.Qxb6601609a
