/-
  THE PLAIN MATHEMATICS: JSON's bytes as a function 'f' of the index, 'n' of them. No Go in sight.
-/
namespace Go.Proofs.Qxb6601357a.J

/-- A hexadecimal digit's value, or -1. -/
def hexv (c : Nat) : Int :=
  if 48 ≤ c ∧ c ≤ 57 then (c : Int) - 48 else if 97 ≤ c ∧ c ≤ 102 then (c : Int) - 87 else if 65 ≤ c ∧ c ≤ 70 then (c : Int) - 55 else -1
/-- What a backslash and c stand for, or -1. -/
def shortU (c : Nat) : Int :=
  if c = 34 then 34 else if c = 92 then 92 else if c = 47 then 47 else if c = 98 then 8 else if c = 102 then 12 else if c = 110 then 10 else if c = 114 then 13 else if c = 116 then 9 else -1
def Ws (c : Nat) : Prop := c = 32 ∨ c = 9 ∨ c = 10 ∨ c = 13
def Digit (c : Nat) : Prop := 48 ≤ c ∧ c ≤ 57
/-- A byte that neither ends a number nor opens or closes anything. -/
def Inert (c : Nat) : Prop := c ≠ 34 ∧ c ≠ 123 ∧ c ≠ 91 ∧ c ≠ 125 ∧ c ≠ 93
def Delim (c : Nat) : Prop := Ws c ∨ c = 44 ∨ c = 93 ∨ c = 125

/-- The string reader of the grammar, from j (behind the opening quote) on. -/
def strM (f : Nat → Nat) (n : Nat) : Nat → Nat → Option Nat
  | 0, _ => none
  | k + 1, j =>
    if j < n then
      if f j = 34 then some (j + 1)
      else if f j = 92 then
        if j + 1 < n then
          if f (j + 1) = 117 then
            if j + 5 < n then
              if 0 ≤ hexv (f (j + 2)) ∧ 0 ≤ hexv (f (j + 3)) ∧ 0 ≤ hexv (f (j + 4)) ∧ 0 ≤ hexv (f (j + 5)) then strM f n k (j + 6) else none
            else none
          else if 0 ≤ shortU (f (j + 1)) then strM f n k (j + 2) else none
        else none
      else strM f n k (j + 1)
    else none

/-- stringEnd's loop, from j on. -/
def strF (f : Nat → Nat) (n : Nat) : Nat → Nat → Option Nat
  | 0, _ => none
  | k + 1, j =>
    if j < n then
      if f j = 92 then strF f n k (j + 2)
      else if f j = 34 then some (j + 1)
      else strF f n k (j + 1)
    else none

theorem strF_enough (f : Nat → Nat) (n : Nat) : ∀ (k j r : Nat), strF f n k j = some r → ∀ k', n < k' + j → strF f n k' j = some r := by
  intro k
  induction k with
  | zero => intro j r h; simp [strF] at h
  | succ k ih =>
    intro j r h k' hk'
    unfold strF at h
    by_cases h1 : j < n
    · rw [if_pos h1] at h
      obtain ⟨q, rfl⟩ : ∃ q, k' = q + 1 := ⟨k' - 1, by omega⟩
      unfold strF
      rw [if_pos h1]
      by_cases h2 : f j = 92
      · rw [if_pos h2] at h ⊢; exact ih _ _ h _ (by omega)
      · rw [if_neg h2] at h ⊢
        by_cases h3 : f j = 34
        · rw [if_pos h3] at h ⊢; exact h
        · rw [if_neg h3] at h ⊢; exact ih _ _ h _ (by omega)
    · rw [if_neg h1] at h; cases h

def StrRet (f : Nat → Nat) (n j r : Nat) : Prop := ∃ k, strF f n k j = some r

theorem StrRet.fuel {f : Nat → Nat} {n j r : Nat} (h : StrRet f n j r) : strF f n (n + 1) j = some r := by
  obtain ⟨k, h⟩ := h; exact strF_enough f n k j r h _ (by omega)

theorem StrRet.skip {f : Nat → Nat} {n j r : Nat} (hj : j < n) (h1 : f j ≠ 92) (h2 : f j ≠ 34) (h : StrRet f n (j + 1) r) : StrRet f n j r := by
  obtain ⟨k, h⟩ := h; exact ⟨k + 1, by unfold strF; rw [if_pos hj, if_neg h1, if_neg h2]; exact h⟩
theorem StrRet.esc {f : Nat → Nat} {n j r : Nat} (hj : j < n) (h1 : f j = 92) (h : StrRet f n (j + 2) r) : StrRet f n j r := by
  obtain ⟨k, h⟩ := h; exact ⟨k + 1, by unfold strF; rw [if_pos hj, if_pos h1]; exact h⟩
theorem StrRet.quote {f : Nat → Nat} {n j : Nat} (hj : j < n) (h1 : f j = 34) : StrRet f n j (j + 1) := by
  exact ⟨1, by unfold strF; rw [if_pos hj, if_neg (by omega), if_pos h1]⟩
theorem StrRet.bounds {f : Nat → Nat} {n j r : Nat} (h : StrRet f n j r) : j < r ∧ r ≤ n := by
  obtain ⟨k, h⟩ := h
  induction k generalizing j with
  | zero => simp [strF] at h
  | succ k ih =>
    unfold strF at h
    by_cases h1 : j < n
    · rw [if_pos h1] at h
      by_cases h2 : f j = 92
      · rw [if_pos h2] at h; have := ih h; omega
      · rw [if_neg h2] at h
        by_cases h3 : f j = 34
        · rw [if_pos h3] at h; cases h; omega
        · rw [if_neg h3] at h; have := ih h; omega
    · rw [if_neg h1] at h; cases h

theorem hexv_inert {c : Nat} (h : 0 ≤ hexv c) : c ≠ 92 ∧ c ≠ 34 := by
  constructor <;> (rintro rfl; simp [hexv] at h)

/-- Where the grammar's reader ends, there stringEnd ends. -/
theorem strM_ret {f : Nat → Nat} {n : Nat} : ∀ (k j r : Nat), strM f n k j = some r → StrRet f n j r := by
  intro k
  induction k with
  | zero => intro j r h; simp [strM] at h
  | succ k ih =>
    intro j r h
    unfold strM at h
    by_cases h1 : j < n
    · rw [if_pos h1] at h
      by_cases h2 : f j = 34
      · rw [if_pos h2] at h; cases h; exact StrRet.quote h1 h2
      · rw [if_neg h2] at h
        by_cases h3 : f j = 92
        · rw [if_pos h3] at h
          by_cases h4 : j + 1 < n
          · rw [if_pos h4] at h
            by_cases h5 : f (j + 1) = 117
            · rw [if_pos h5] at h
              by_cases h6 : j + 5 < n
              · rw [if_pos h6] at h
                by_cases h7 : 0 ≤ hexv (f (j + 2)) ∧ 0 ≤ hexv (f (j + 3)) ∧ 0 ≤ hexv (f (j + 4)) ∧ 0 ≤ hexv (f (j + 5))
                · rw [if_pos h7] at h
                  obtain ⟨a, b, c, d⟩ := h7
                  have := ih _ _ h
                  refine StrRet.esc h1 h3 ?_
                  refine StrRet.skip (by omega) (hexv_inert a).1 (hexv_inert a).2 ?_
                  refine StrRet.skip (by omega) (hexv_inert b).1 (hexv_inert b).2 ?_
                  refine StrRet.skip (by omega) (hexv_inert c).1 (hexv_inert c).2 ?_
                  exact StrRet.skip (by omega) (hexv_inert d).1 (hexv_inert d).2 this
                · rw [if_neg h7] at h; cases h
              · rw [if_neg h6] at h; cases h
            · rw [if_neg h5] at h
              by_cases h8 : 0 ≤ shortU (f (j + 1))
              · rw [if_pos h8] at h; exact StrRet.esc h1 h3 (ih _ _ h)
              · rw [if_neg h8] at h; cases h
          · rw [if_neg h4] at h; cases h
        · rw [if_neg h3] at h; exact StrRet.skip h1 h3 h2 (ih _ _ h)
    · rw [if_neg h1] at h; cases h

/-- valueEnd's loop over an array or object: at j, d brackets open. -/
def loopF (f : Nat → Nat) (n : Nat) : Nat → Nat → Nat → Option Nat
  | 0, _, _ => none
  | k + 1, j, d =>
    if j < n then
      if f j = 34 then (strF f n (n + 1) (j + 1)).bind fun e => loopF f n k e d
      else if f j = 123 ∨ f j = 91 then loopF f n k (j + 1) (d + 1)
      else if f j = 125 ∨ f j = 93 then
        if d = 0 then none else if d = 1 then some (j + 1) else loopF f n k (j + 1) (d - 1)
      else loopF f n k (j + 1) d
    else none

def Ret (f : Nat → Nat) (n j d r : Nat) : Prop := ∃ k, loopF f n k j d = some r
/-- From i to e nothing is left open or closed. -/
def Pass (f : Nat → Nat) (n i e : Nat) : Prop := ∀ d r, 1 ≤ d → Ret f n e d r → Ret f n i d r

theorem Pass.refl (f : Nat → Nat) (n i : Nat) : Pass f n i i := fun _ _ _ h => h
theorem Pass.trans {f : Nat → Nat} {n i j e : Nat} (h : Pass f n i j) (k : Pass f n j e) : Pass f n i e := fun d r hd h' => h d r hd (k d r hd h')
theorem Pass.one {f : Nat → Nat} {n i : Nat} (hi : i < n) (h : Inert (f i)) : Pass f n i (i + 1) := by
  rintro d r _ ⟨k, hk⟩
  obtain ⟨a, b, c, d', e⟩ := h
  refine ⟨k + 1, ?_⟩
  unfold loopF
  rw [if_pos hi, if_neg a, if_neg (by omega), if_neg (by omega)]
  exact hk
theorem Pass.str {f : Nat → Nat} {n i e : Nat} (hi : i < n) (h : f i = 34) (hs : StrRet f n (i + 1) e) : Pass f n i e := by
  rintro d r _ ⟨k, hk⟩
  refine ⟨k + 1, ?_⟩
  unfold loopF
  rw [if_pos hi, if_pos h, hs.fuel]
  exact hk
theorem Pass.run {f : Nat → Nat} {n i e : Nat} (hie : i ≤ e) (he : e ≤ n) (h : ∀ j, i ≤ j → j < e → Inert (f j)) : Pass f n i e := by
  obtain ⟨m, rfl⟩ : ∃ m, e = i + m := ⟨e - i, by omega⟩
  induction m with
  | zero => exact Pass.refl _ _ _
  | succ m ih => exact (ih (by omega) (by omega) (fun j h1 h2 => h j h1 (by omega))).trans (Pass.one (by omega) (h _ (by omega) (by omega)))

/-- Brackets round a passage. -/
theorem Pass.bracket {f : Nat → Nat} {n i q : Nat} (hiq : i < q) (hq : q < n) (ho : f i = 123 ∨ f i = 91) (hc : f q = 125 ∨ f q = 93) (h : Pass f n (i + 1) q) : Pass f n i (q + 1) ∧ Ret f n i 0 (q + 1) := by
  constructor
  · rintro d r hd ⟨k, hk⟩
    have step : Ret f n q (d + 1) r := by
      refine ⟨k + 1, ?_⟩
      unfold loopF
      rw [if_pos hq, if_neg (by omega), if_neg (by omega), if_pos hc, if_neg (by omega), if_neg (by omega)]
      simpa using hk
    obtain ⟨k2, hk2⟩ := h (d + 1) r (by omega) step
    refine ⟨k2 + 1, ?_⟩
    unfold loopF
    rw [if_pos (by omega), if_neg (by omega), if_pos ho]
    exact hk2
  · have step : Ret f n q 1 (q + 1) := by
      refine ⟨1, ?_⟩
      unfold loopF
      rw [if_pos hq, if_neg (by omega), if_neg (by omega), if_pos hc, if_neg (by omega), if_pos rfl]
    obtain ⟨k2, hk2⟩ := h 1 _ (by omega) step
    refine ⟨k2 + 1, ?_⟩
    unfold loopF
    rw [if_pos (by omega), if_neg (by omega), if_pos ho]
    exact hk2

/-- A scalar's byte. -/
def Sc (c : Nat) : Prop := Inert c ∧ ¬ Delim c

/-- What the grammar's reader says of a value that it takes. -/
structure OkV (f : Nat → Nat) (n i e : Nat) (k : Int) : Prop where
  lt : i < e
  le : e ≤ n
  pass : Pass f n i e
  kind : (k = 3 ∧ f i = 34 ∧ StrRet f n (i + 1) e) ∨ (k = 4 ∧ f i = 91 ∧ Ret f n i 0 e) ∨ (k = 5 ∧ f i = 123 ∧ Ret f n i 0 e) ∨
    (((k = 0 ∧ f i = 110) ∨ (k = 1 ∧ (f i = 116 ∨ f i = 102)) ∨ (k = 2 ∧ (f i = 45 ∨ Digit (f i)))) ∧ ∀ j, i ≤ j → j < e → Sc (f j))

theorem ws_inert {c : Nat} (h : Ws c) : Inert c := by unfold Ws at h; unfold Inert; omega

theorem okv_str {f : Nat → Nat} {n i e : Nat} (hi : i < n) (h : f i = 34) (hs : StrRet f n (i + 1) e) : OkV f n i e 3 :=
  ⟨by have := hs.bounds; omega, hs.bounds.2, Pass.str hi h hs, .inl ⟨rfl, h, hs⟩⟩
theorem okv_sc {f : Nat → Nat} {n i e : Nat} {k : Int} (hlt : i < e) (hle : e ≤ n) (hk : (k = 0 ∧ f i = 110) ∨ (k = 1 ∧ (f i = 116 ∨ f i = 102)) ∨ (k = 2 ∧ (f i = 45 ∨ Digit (f i)))) (hs : ∀ j, i ≤ j → j < e → Sc (f j)) : OkV f n i e k :=
  ⟨hlt, hle, Pass.run (by omega) hle (fun j h1 h2 => (hs j h1 h2).1), .inr (.inr (.inr ⟨hk, hs⟩))⟩
end Go.Proofs.Qxb6601357a.J
