import Derived.Test.Qxb6601609aTakeA
import Derived.Test.Qxb6601609aTakeB
import Derived.Test.Qxb6601609aTakeC
import Derived.Test.Qxb6601609aState
namespace Go.Proofs.Qxb6601609a
open Go.RowKit
set_option linter.unusedVariables false

def MsgTok (f : Nat → Nat) (s e : Nat) : Prop := tokStr f s (e - s) = ⟨#[109, 101, 115, 115, 97, 103, 101]⟩ ∨ tokStr f s (e - s) = ⟨#[103, 114, 111, 117, 112]⟩
def MapTok (f : Nat → Nat) (s e : Nat) : Prop := tokStr f s (e - s) = ⟨#[109, 97, 112]⟩

/-- The step at a token that opens nothing. -/
structure NonSpec (f : Nat → Nat) (s e N : Nat) (cl : Nat → Nat) (bd : Nat → Bool) (m b d k : Int) (o : Out2) : Prop where
  ecl : o.cl = cl
  ebd : o.bd = bd
  ea : o.a = 0
  eer : o.er = none
  pop : (0 < N ∧ Closer (f s) ∧ cl (N - 1) = f s ∧ o.N = N - 1 ∧ o.m = if bd (N - 1) then wrap64 (m - 1) else m) ∨ (¬ (0 < N ∧ Closer (f s) ∧ cl (N - 1) = f s) ∧ o.N = N ∧ o.m = m)
  key : (o.k = -1 ∧ o.f = -1) ∨ (o.k = s ∧ o.f = -1 ∧ MsgTok f s e) ∨ (o.k = -1 ∧ o.f = s ∧ MapTok f s e)
  bod : (o.b = b ∧ o.d = d) ∨ (o.b = -1 ∧ o.d = d ∧ ¬ Word (f s)) ∨ (0 ≤ k ∧ Word (f s) ∧ o.b = N ∧ o.d = k)

def Out.up (o : Out) (cl : Nat → Nat) (bd : Nat → Bool) : Out2 := ⟨o.N, cl, bd, o.m, o.b, o.d, o.k, o.f, 0, none⟩
theorem TN.up {G lo : Nat} {sv : Value} {cl : Nat → Nat} {bd : Nat → Bool} {o : Out} {w w' : World} {e : Ending} {R : Out2 → Prop} (h : TN G lo sv cl bd o w e w') (hG : lo ≤ G) (hR : R (o.up cl bd)) : TU G lo sv R w e w' := by
  obtain ⟨ov', e1, e2, e3, e4, e5⟩ := h
  exact ⟨_, ov', none, hR, e1, e2, e4, e5.mono hG, rfl⟩

theorem not_word {c : Nat} (h : Closer c ∨ c = 59) : ¬ Word c := by unfold Word; unfold Closer at h; omega

theorem take_non (G lo sb soff sn sc s e : Nat) (ov : Value) (N : Nat) (cl : Nat → Nat) (bd : Nat → Bool) (f : Nat → Nat) (m b d k mf : Int) (w : World) (hse : s < e) (hen : e ≤ sn) (hnc : sn ≤ sc) (hsn : sn ≤ 65536) (hN : N ≤ 4096)
    (hsb : sb < G) (h : Has w sb soff sn f) (hns : NS w G (.slice (some ⟨sb, soff, none⟩) sn sc) ov m b d k mf) (hown : w.ownsRow lo 47 2 ov N (brs cl bd N)) (hgo : ∀ g, ov.ownBlock = some g → g < G)
    (hG : lo ≤ G) (hcz : cof (f s) = 0) :
    Calls Try.prog 30 #[.pointer (some ⟨G, 0, none⟩), .int .i64 s, .int .i64 e] w (TU G lo (.slice (some ⟨sb, soff, none⟩) sn sc) (NonSpec f s e N cl bd m b d k) w) := by
  by_cases hcl : Closer (f s)
  · have hnw := not_word (.inl hcl)
    have hbA : ∀ M : Nat, (bA M b = b ∧ d = d) ∨ (bA M b = -1 ∧ d = d ∧ ¬ Word (f s)) ∨ (0 ≤ k ∧ Word (f s) ∧ bA M b = N ∧ d = k) := by
      intro M
      by_cases hlt : (M : Int) < b
      · exact .inr (.inl ⟨bA_pos hlt, rfl, hnw⟩)
      · exact .inl ⟨bA_neg (by omega), rfl⟩
    by_cases hN0 : N = 0
    · refine (takeA1 G lo sb soff sn sc s e ov N cl bd f m b d k mf w hse hen hnc hsn hN hsb h hns hown hgo hcl hN0).mono ?_
      intro e1 w' ht
      exact ht.up hG ⟨rfl, rfl, rfl, rfl, .inr ⟨by omega, rfl, rfl⟩, .inl ⟨rfl, rfl⟩, hbA N⟩
    · by_cases hne : cl (N - 1) = f s
      · cases hbt : bd (N - 1) with
        | true =>
          refine (takeA3 G lo sb soff sn sc s e ov N cl bd f m b d k mf w hse hen hnc hsn hN hsb h hns hown hgo hcl (by omega) hne hbt).mono ?_
          intro e1 w' ht
          exact ht.up hG ⟨rfl, rfl, rfl, rfl, .inl ⟨by omega, hcl, hne, rfl, by rw [hbt, if_pos rfl]; rfl⟩, .inl ⟨rfl, rfl⟩, hbA (N - 1)⟩
        | false =>
          refine (takeA4 G lo sb soff sn sc s e ov N cl bd f m b d k mf w hse hen hnc hsn hN hsb h hns hown hgo hcl (by omega) hne hbt).mono ?_
          intro e1 w' ht
          exact ht.up hG ⟨rfl, rfl, rfl, rfl, .inl ⟨by omega, hcl, hne, rfl, by rw [hbt, if_neg Bool.false_ne_true]; rfl⟩, .inl ⟨rfl, rfl⟩, hbA (N - 1)⟩
      · refine (takeA2 G lo sb soff sn sc s e ov N cl bd f m b d k mf w hse hen hnc hsn hN hsb h hns hown hgo hcl (by omega) hne).mono ?_
        intro e1 w' ht
        exact ht.up hG ⟨rfl, rfl, rfl, rfl, .inr ⟨fun hx => hne hx.2.2, rfl, rfl⟩, .inl ⟨rfl, rfl⟩, hbA N⟩
  · have hnp : ¬ (0 < N ∧ Closer (f s) ∧ cl (N - 1) = f s) := fun hx => hcl hx.2.1
    by_cases h59 : f s = 59
    · refine (takeB G lo sb soff sn sc s e ov N cl bd f m b d k mf w hse hen hnc hsn hN hsb h hns hown hgo h59).mono ?_
      intro e1 w' ht
      refine ht.up hG ⟨rfl, rfl, rfl, rfl, .inr ⟨hnp, rfl, rfl⟩, .inl ⟨rfl, rfl⟩, ?_⟩
      by_cases hlt : b = (N : Int)
      · exact .inr (.inl ⟨bB_pos hlt, rfl, not_word (.inr h59)⟩)
      · exact .inl ⟨bB_neg hlt, rfl⟩
    · by_cases hk : 0 ≤ k ∧ Word (f s)
      · refine (takeC1 G lo sb soff sn sc s e ov N cl bd f m b d k mf w hse hen hnc hsn hN hsb h hns hown hgo hcz hcl h59 hk.1 hk.2).mono ?_
        intro e1 w' ht
        exact ht.up hG ⟨rfl, rfl, rfl, rfl, .inr ⟨hnp, rfl, rfl⟩, .inl ⟨rfl, rfl⟩, .inr (.inr ⟨hk.1, hk.2, rfl, rfl⟩)⟩
      · refine (takeC2 G lo sb soff sn sc s e ov N cl bd f m b d k mf w hse hen hnc hsn hN hsb h hns hown hgo hcz hcl h59 hk).mono ?_
        rintro e1 w' ⟨o, ho, ht⟩
        refine ht.up hG ?_
        rcases ho with ⟨rfl, ho⟩ | ⟨rfl, ho⟩ | rfl
        · exact ⟨rfl, rfl, rfl, rfl, .inr ⟨hnp, rfl, rfl⟩, .inr (.inl ⟨rfl, rfl, ho⟩), .inl ⟨rfl, rfl⟩⟩
        · exact ⟨rfl, rfl, rfl, rfl, .inr ⟨hnp, rfl, rfl⟩, .inr (.inr ⟨rfl, rfl, ho⟩), .inl ⟨rfl, rfl⟩⟩
        · exact ⟨rfl, rfl, rfl, rfl, .inr ⟨hnp, rfl, rfl⟩, .inl ⟨rfl, rfl⟩, .inl ⟨rfl, rfl⟩⟩
end Go.Proofs.Qxb6601609a
