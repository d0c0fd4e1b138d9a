import Derived.Test.Qxb6601609aTakeO
import Derived.Test.Qxb6601609aState2
import Derived.Test.Qxb6601609aKw
namespace Go.Proofs.Qxb6601609a
open Go.RowKit
set_option linter.unusedVariables false

/-- How many of the first k are bodies. -/
def cnt (bd : Nat → Bool) : Nat → Nat
  | 0 => 0
  | k + 1 => cnt bd k + (if bd k then 1 else 0)
theorem cnt_congr {bd bd' : Nat → Bool} : ∀ {k : Nat}, (∀ i, i < k → bd' i = bd i) → cnt bd' k = cnt bd k
  | 0, _ => rfl
  | k + 1, h => by rw [cnt, cnt, cnt_congr (fun i hi => h i (by omega)), h k (by omega)]
theorem cnt_le (bd : Nat → Bool) : ∀ k : Nat, cnt bd k ≤ k
  | 0 => Nat.le_refl _
  | k + 1 => by have := cnt_le bd k; rw [cnt]; split <;> omega
theorem cnt_yes {bd : Nat → Bool} {k : Nat} (h : bd k = true) : cnt bd (k + 1) = cnt bd k + 1 := by rw [cnt, h, if_pos rfl]
theorem cnt_no {bd : Nat → Bool} {k : Nat} (h : bd k = false) : cnt bd (k + 1) = cnt bd k := by rw [cnt, h, if_neg Bool.false_ne_true, Nat.add_zero]

def KeyAt (f E : Nat → Nat) (i : Nat) (p : Int) : Prop := ∃ q, q < i ∧ p = st E q ∧ MsgTok f (st E q) (E q)
def MapAt (f E : Nat → Nat) (i : Nat) (p : Int) : Prop := ∃ q, q < i ∧ p = st E q ∧ MapTok f (st E q) (E q)
theorem KeyAt.next {f E : Nat → Nat} {i : Nat} {p : Int} (h : KeyAt f E i p) : KeyAt f E (i + 1) p := by
  obtain ⟨q, h1, h2⟩ := h
  exact ⟨q, by omega, h2⟩

/-- What holds ahead of token i. -/
structure Inv (f E : Nat → Nat) (i N : Nat) (cl : Nat → Nat) (bd : Nat → Bool) (m b d k mf : Int) : Prop where
  hN : N ≤ 100
  hm : m = cnt bd N
  h31 : cnt bd N ≤ 31
  hbd : ∀ j, j < N → bd j = true → cl j = 125
  hb : 0 ≤ b → KeyAt f E i d
  hk : 0 ≤ k → KeyAt f E i k
  hf : 0 ≤ mf → MapAt f E i mf

theorem Inv.start (f E : Nat → Nat) (cl : Nat → Nat) (bd : Nat → Bool) : Inv f E 0 0 cl bd 0 (-1) (-1) (-1) (-1) :=
  ⟨by omega, rfl, by simp [cnt], fun j hj => by omega, fun h => absurd h (by omega), fun h => absurd h (by omega), fun h => absurd h (by omega)⟩

theorem Inv.non {f E : Nat → Nat} {i N : Nat} {cl : Nat → Nat} {bd : Nat → Bool} {m b d k mf : Int} (h : Inv f E i N cl bd m b d k mf) {o : Out2} (hs : NonSpec f (st E i) (E i) N cl bd m b d k o) : Inv f E (i + 1) o.N o.cl o.bd o.m o.b o.d o.k o.f := by
  have hN := h.hN
  have hm := h.hm
  have h31 := h.h31
  refine ⟨?_, ?_, ?_, ?_, ?_, ?_, ?_⟩
  · rcases hs.pop with h1 | h1 <;> omega
  · rw [hs.ebd]
    rcases hs.pop with ⟨h0, _, _, h1, h2⟩ | ⟨_, h1, h2⟩
    · obtain ⟨q, rfl⟩ : ∃ q, N = q + 1 := ⟨N - 1, by omega⟩
      simp only [Nat.add_sub_cancel] at h1 h2
      rw [h1, h2, hm]
      cases hq : bd q with
      | true =>
        rw [cnt_yes hq] at h31 ⊢
        rw [if_pos rfl, wrap64]
        omega
      | false => rw [cnt_no hq, if_neg Bool.false_ne_true]
    · rw [h1, h2, hm]
  · rw [hs.ebd]
    rcases hs.pop with ⟨h0, _, _, h1, h2⟩ | ⟨_, h1, h2⟩
    · obtain ⟨q, rfl⟩ : ∃ q, N = q + 1 := ⟨N - 1, by omega⟩
      rw [h1]
      rw [cnt] at h31
      simp only [Nat.add_sub_cancel]
      omega
    · rw [h1]; exact h31
  · rw [hs.ebd, hs.ecl]
    intro j hj
    exact h.hbd j (by rcases hs.pop with h1 | h1 <;> omega)
  · intro h0
    rcases hs.bod with ⟨h1, h2⟩ | ⟨h1, _⟩ | ⟨h1, _, h2, h3⟩
    · rw [h2]; exact (h.hb (by omega)).next
    · omega
    · rw [h3]; exact (h.hk h1).next
  · intro h0
    rcases hs.key with ⟨h1, h2⟩ | ⟨h1, h2, h3⟩ | ⟨h1, h2, h3⟩
    · omega
    · exact ⟨i, by omega, h1, h3⟩
    · omega
  · intro h0
    rcases hs.key with ⟨h1, h2⟩ | ⟨h1, h2, h3⟩ | ⟨h1, h2, h3⟩
    · omega
    · omega
    · exact ⟨i, by omega, h2, h3⟩

theorem cof_123 : cof 123 = 125 := by decide

theorem Inv.opens {f E : Nat → Nat} {i N : Nat} {cl : Nat → Nat} {bd : Nat → Bool} {m b d k mf : Int} (h : Inv f E i N cl bd m b d k mf) {o : Out2} (hs : OpenSpec f (st E i) N cl bd m b d mf o) (her : o.er = none) : Inv f E (i + 1) o.N o.cl o.bd o.m o.b o.d o.k o.f := by
  have hN := h.hN
  have hm := h.hm
  have h31 := h.h31
  rcases hs with ⟨_, _, h1, _⟩ | ⟨_, _, _, h1, _⟩ | ⟨hne, h1, _, _, h2, h3, h4, h5, h6, h7⟩
  · rw [her] at h1; cases h1
  · rw [her] at h1; cases h1
  · have hc : cnt o.bd N = cnt bd N := cnt_congr (fun i hi => (h2 i hi).2)
    refine ⟨by omega, ?_, ?_, ?_, ?_, fun h0 => by omega, fun h0 => by omega⟩
    · rw [h1]
      rcases h7 with ⟨h8, _, h9, h10, _⟩ | ⟨h8, h9, _⟩
      · rw [cnt_yes h8, hc, h10, hm, wrap64]; omega
      · rw [cnt_no h8, hc, h9, hm]
    · rw [h1]
      rcases h7 with ⟨h8, _, h9, h10, _⟩ | ⟨h8, h9, _⟩
      · rw [cnt_yes h8, hc]; omega
      · rw [cnt_no h8, hc]; exact h31
    · rw [h1]
      intro j hj hb
      by_cases e : j = N
      · subst e
        rcases h7 with ⟨h8, h9, _⟩ | ⟨h8, h9, _⟩
        · rw [h3, h9]; exact cof_123
        · rw [h8] at hb; cases hb
      · rw [(h2 j (by omega)).1]
        rw [(h2 j (by omega)).2] at hb
        exact h.hbd j (by omega) hb
    · intro h0
      rw [h4]
      rcases h7 with ⟨_, _, _, _, h8⟩ | ⟨_, _, h8⟩
      · omega
      · exact (h.hb (by omega)).next

/-- A step of take. -/
def StepSpec (f : Nat → Nat) (s e N : Nat) (cl : Nat → Nat) (bd : Nat → Bool) (m b d k mf : Int) (o : Out2) : Prop :=
  (cof (f s) = 0 ∧ NonSpec f s e N cl bd m b d k o) ∨ (cof (f s) ≠ 0 ∧ OpenSpec f s N cl bd m b d mf o)

theorem StepSpec.size {f : Nat → Nat} {s e N : Nat} {cl : Nat → Nat} {bd : Nat → Bool} {m b d k mf : Int} {o : Out2} (h : StepSpec f s e N cl bd m b d k mf o) (hN : N ≤ 4096) : o.N ≤ 8192 := by
  rcases h with ⟨_, h⟩ | ⟨_, h⟩
  · rcases h.pop with h1 | h1 <;> omega
  · rcases h with h | h | h <;> omega

theorem Inv.step {f E : Nat → Nat} {i N : Nat} {cl : Nat → Nat} {bd : Nat → Bool} {m b d k mf : Int} (h : Inv f E i N cl bd m b d k mf) {o : Out2} (hs : StepSpec f (st E i) (E i) N cl bd m b d k mf o) (her : o.er = none) : Inv f E (i + 1) o.N o.cl o.bd o.m o.b o.d o.k o.f := by
  rcases hs with ⟨_, h1⟩ | ⟨_, h1⟩
  · exact h.non h1
  · exact h.opens h1 her

theorem TU.weak {G lo : Nat} {sv : Value} {R R' : Out2 → Prop} {w w' : World} {e : Ending} (h : TU G lo sv R w e w') (hR : ∀ o, R o → R' o) : TU G lo sv R' w e w' := by
  obtain ⟨o, ov', er, h1, h2⟩ := h
  exact ⟨o, ov', er, hR o h1, h2⟩

/-- take, at any token. -/
theorem take_any (G lo sb soff sn sc s e : Nat) (ov : Value) (N : Nat) (cl : Nat → Nat) (bd : Nat → Bool) (f : Nat → Nat) (m b d k mf : Int) (w : World) (hse : s < e) (hen : e ≤ sn) (hnc : sn ≤ sc) (hsn : sn ≤ 65536) (hN : N ≤ 4096)
    (hsb : sb < G) (h : Has w sb soff sn f) (hns : NS w G (.slice (some ⟨sb, soff, none⟩) sn sc) ov m b d k mf) (hown : w.ownsRow lo 47 2 ov N (brs cl bd N)) (hgo : ∀ g, ov.ownBlock = some g → g < G)
    (hG : lo ≤ G) :
    Calls Try.prog 30 #[.pointer (some ⟨G, 0, none⟩), .int .i64 s, .int .i64 e] w (TU G lo (.slice (some ⟨sb, soff, none⟩) sn sc) (StepSpec f s e N cl bd m b d k mf) w) := by
  by_cases hc : cof (f s) = 0
  · exact (take_non G lo sb soff sn sc s e ov N cl bd f m b d k mf w hse hen hnc hsn hN hsb h hns hown hgo hG hc).mono fun _ _ h1 => h1.weak fun o ho => .inl ⟨hc, ho⟩
  · exact (take_open G lo sb soff sn sc s e ov N cl bd f m b d k mf w hse hen hnc hsn hN hsb h hns hown hgo hG hc).mono fun _ _ h1 => h1.weak fun o ho => .inr ⟨hc, ho⟩

/-- ZZTakeState, at any token. -/
theorem zz_any (sb soff sn sc s e : Nat) (f : Nat → Nat) (ca ba : Option Addr) (N cc bc : Nat) (cl : Nat → Nat) (bd : Nat → Bool) (m b d k mf : Int) (w : World) (hN : N ≤ 4096) (hse : s < e) (hen : e ≤ sn) (hnc : sn ≤ sc) (hsn : sn ≤ 65536)
    (hsb : sb < w.heap.size) (h : Has w sb soff sn f) (hc : Rd w ca N (fun i => .int .u8 (cl i))) (hb : Rd w ba N (fun i => .bool (bd i))) :
    Calls Try.prog 18 #[.slice (some ⟨sb, soff, none⟩) sn sc, .slice ca N cc, .slice ba N bc, .int .i64 m, .int .i64 b, .int .i64 d, .int .i64 k, .int .i64 mf, .int .i64 s, .int .i64 e] w (ZS2 (StepSpec f s e N cl bd m b d k mf) w) :=
  zzTake2 sb soff sn sc s e f ca ba N cc bc cl bd m b d k mf w _ hN (fun o ho => ho.size hN) hsb h hc hb
    (fun G wt ov hG hh hns hown hgo => take_any G w.heap.size sb soff sn sc s e ov N cl bd f m b d k mf wt hse hen hnc hsn hN (by omega) hh hns hown hgo hG)

/-- The model's bytes. -/
def us (cl : Nat → Nat) : Nat → List Value
  | 0 => []
  | k + 1 => us cl k ++ [.int .u8 (cl k)]
theorem us_length (cl : Nat → Nat) : ∀ k : Nat, (us cl k).length = k
  | 0 => rfl
  | k + 1 => by simp [us, us_length cl k]
theorem us_get (cl : Nat → Nat) {i k : Nat} (h : i < k) : (us cl k)[i]? = some (.int .u8 (cl i)) := by
  induction k with
  | zero => omega
  | succ k ih =>
    unfold us
    by_cases e : i = k
    · subst e
      rw [List.getElem?_append_right (by rw [us_length]; omega), us_length]
      simp
    · rw [List.getElem?_append_left (by rw [us_length]; omega)]
      exact ih (by omega)
theorem us_congr {cl cl' : Nat → Nat} : ∀ {k : Nat}, (∀ i, i < k → cl' i = cl i) → us cl' k = us cl k
  | 0, _ => rfl
  | k + 1, h => by rw [us, us, us_congr (fun i hi => h i (by omega)), h k (by omega)]

/-- What the model is turned to. -/
theorem StepSpec.model {f : Nat → Nat} {s e N : Nat} {cl : Nat → Nat} {bd : Nat → Bool} {m b d k mf : Int} {o : Out2} (h : StepSpec f s e N cl bd m b d k mf o) (her : o.er = none) :
    o.a = 0 ∧ ((cof (f s) ≠ 0 ∧ N ≠ 100 ∧ o.N = N + 1 ∧ us o.cl o.N = us cl N ++ [.int .u8 (cof (f s))]) ∨
      (cof (f s) = 0 ∧ 0 < N ∧ Closer (f s) ∧ cl (N - 1) = f s ∧ o.N = N - 1 ∧ us o.cl o.N = us cl (N - 1)) ∨
      (cof (f s) = 0 ∧ ¬ (0 < N ∧ Closer (f s) ∧ cl (N - 1) = f s) ∧ o.N = N ∧ us o.cl o.N = us cl N)) := by
  rcases h with ⟨hc, h⟩ | ⟨hc, h⟩
  · refine ⟨h.ea, .inr ?_⟩
    rcases h.pop with ⟨h1, h2, h3, h4, _⟩ | ⟨h1, h2, _⟩
    · exact .inl ⟨hc, h1, h2, h3, h4, by rw [h4, h.ecl]⟩
    · exact .inr ⟨hc, h1, h2, by rw [h2, h.ecl]⟩
  · rcases h with ⟨_, _, h1, _⟩ | ⟨_, _, _, h1, _⟩ | ⟨h0, h1, _, h2, h3, h4, _⟩
    · rw [her] at h1; cases h1
    · rw [her] at h1; cases h1
    · refine ⟨h2, .inl ⟨hc, h0, h1, ?_⟩⟩
      rw [h1, us, us_congr (fun i hi => (h3 i hi).1), h4]

/-- What is refused. -/
theorem StepSpec.refused {f E : Nat → Nat} {i N : Nat} {cl : Nat → Nat} {bd : Nat → Bool} {m b d k mf : Int} {o : Out2} (hi : Inv f E i N cl bd m b d k mf) (h : StepSpec f (st E i) (E i) N cl bd m b d k mf o) {lim : ByteArray} {got mx : Int} (her : o.er = some (lim, got, mx)) :
    cof (f (st E i)) ≠ 0 ∧ ((N = 100 ∧ lim = ⟨#[110, 101, 115, 116, 105, 110, 103]⟩ ∧ got = 101 ∧ mx = 100 ∧ o.a = st E i) ∨
      (N ≠ 100 ∧ lim = ⟨#[109, 101, 115, 115, 97, 103, 101, 32, 110, 101, 115, 116, 105, 110, 103]⟩ ∧ got = 32 ∧ mx = 31 ∧ m = 31 ∧ ∃ q, q < i ∧ o.a = st E q ∧ (MsgTok f (st E q) (E q) ∨ MapTok f (st E q) (E q)))) := by
  rcases h with ⟨hc, h⟩ | ⟨hc, h⟩
  · rw [h.eer] at her; cases her
  · refine ⟨hc, ?_⟩
    rcases h with ⟨h1, _, h2, h3⟩ | ⟨h1, _, hm, h2, h3⟩ | ⟨_, _, h1, _⟩
    · rw [her] at h2; cases h2
      exact .inl ⟨h1, rfl, rfl, rfl, h3⟩
    · rw [her] at h2; cases h2
      refine .inr ⟨h1, rfl, rfl, rfl, hm, ?_⟩
      rcases h3 with ⟨_, h4, h5⟩ | ⟨h4, h5⟩
      · obtain ⟨q, h6, h7, h8⟩ := hi.hb (by omega)
        exact ⟨q, h6, by rw [h5, h7], .inl h8⟩
      · obtain ⟨q, h6, h7, h8⟩ := hi.hf h4
        exact ⟨q, h6, by rw [h5, h7], .inr h8⟩
    · rw [her] at h1; cases h1
end Go.Proofs.Qxb6601609a
