/-
  THE PLAIN LAW OF THE ROUND TRIP: the text of escapes, as a list; how the readers pass over it. No Go in sight.
-/
import Derived.Test.Qxb6601357aPlain
namespace Go.Proofs.Qxb6601357a.J

/-- A hexadecimal digit's byte, lower case. -/
def hd (d : Nat) : Nat := if d < 10 then 48 + d else 87 + d
/-- The escape of a character. -/
def esc (r : Nat) : List Nat :=
  if r = 34 ∨ r = 92 then [92, r] else if r = 8 then [92, 98] else if r = 12 then [92, 102] else if r = 10 then [92, 110] else if r = 13 then [92, 114] else if r = 9 then [92, 116]
  else [92, 117, hd (r / 4096), hd (r / 256 % 16), hd (r / 16 % 16), hd (r % 16)]
def flat (R : Nat → Nat) : Nat → List Nat
  | 0 => []
  | k + 1 => flat R k ++ esc (R k)
def text (R : Nat → Nat) (m : Nat) : List Nat := 34 :: (flat R m ++ [34])
def tf (R : Nat → Nat) (m k : Nat) : Nat := (text R m).getD k 0
/-- Where the k-th escape begins. -/
def pos (R : Nat → Nat) (k : Nat) : Nat := 1 + (flat R k).length

theorem esc_len (r : Nat) : 2 ≤ (esc r).length ∧ (esc r).length ≤ 6 := by
  unfold esc
  repeat (first | (split) | (simp))
theorem flat_len (R : Nat → Nat) (k : Nat) : (flat R k).length ≤ 6 * k := by
  induction k with
  | zero => simp [flat]
  | succ k ih => have := (esc_len (R k)).2; simp [flat]; omega
theorem flat_split (R : Nat → Nat) {k m : Nat} (h : k < m) : ∃ rest, flat R m = flat R k ++ (esc (R k) ++ rest) := by
  induction m with
  | zero => omega
  | succ m ih =>
    by_cases e : k = m
    · subst e; exact ⟨[], by simp [flat]⟩
    · obtain ⟨rest, hr⟩ := ih (by omega)
      exact ⟨rest ++ esc (R m), by simp [flat, hr]⟩
theorem text_len (R : Nat → Nat) (m : Nat) : (text R m).length = pos R m + 1 := by simp [text, pos]; omega
theorem pos_zero (R : Nat → Nat) : pos R 0 = 1 := rfl
theorem pos_succ (R : Nat → Nat) (k : Nat) : pos R (k + 1) = pos R k + (esc (R k)).length := by simp [pos, flat]; omega
theorem pos_le (R : Nat → Nat) {k m : Nat} (h : k ≤ m) : pos R k ≤ pos R m := by
  induction m with
  | zero => have : k = 0 := by omega
            subst this; exact Nat.le_refl _
  | succ m ih =>
    by_cases e : k = m + 1
    · subst e; exact Nat.le_refl _
    · have := ih (by omega); rw [pos_succ]; omega
theorem pos_bound (R : Nat → Nat) (m : Nat) : pos R m ≤ 1 + 6 * m := by have := flat_len R m; unfold pos; omega
theorem tf_zero (R : Nat → Nat) (m : Nat) : tf R m 0 = 34 := rfl
theorem tf_last (R : Nat → Nat) (m : Nat) : tf R m (pos R m) = 34 := by
  unfold tf text pos
  rw [Nat.add_comm, List.getD_cons_succ]
  simp [List.getD]
theorem tf_at (R : Nat → Nat) {k m : Nat} (h : k < m) {t : Nat} (ht : t < (esc (R k)).length) : tf R m (pos R k + t) = (esc (R k)).getD t 0 := by
  obtain ⟨rest, hr⟩ := flat_split R h
  unfold tf text pos
  rw [show 1 + (flat R k).length + t = ((flat R k).length + t) + 1 by omega, List.getD_cons_succ, hr]
  simp only [List.getD, List.append_assoc]
  rw [List.getElem?_append_right (by omega), show (flat R k).length + t - (flat R k).length = t by omega, List.getElem?_append_left ht]

theorem hexv_hd {d : Nat} (h : d < 16) : hexv (hd d) = (d : Int) := by
  unfold hd hexv
  by_cases h1 : d < 10
  · rw [if_pos h1, if_pos (by omega)]; omega
  · rw [if_neg h1, if_neg (by omega), if_pos (by omega)]; omega
theorem hd_print {d : Nat} (h : d < 16) : 32 ≤ hd d ∧ hd d ≤ 126 := by unfold hd; split <;> omega

theorem esc_print {r : Nat} (h : r ≤ 65535) : ∀ c ∈ esc r, 32 ≤ c ∧ c ≤ 126 := by
  intro c hc
  have a1 := hd_print (d := r / 4096) (by omega)
  have a2 := hd_print (d := r / 256 % 16) (by omega)
  have a3 := hd_print (d := r / 16 % 16) (by omega)
  have a4 := hd_print (d := r % 16) (by omega)
  unfold esc at hc
  by_cases h1 : r = 34 ∨ r = 92
  · rw [if_pos h1] at hc; simp at hc; omega
  · rw [if_neg h1] at hc
    by_cases h2 : r = 8
    · rw [if_pos h2] at hc; simp at hc; omega
    · rw [if_neg h2] at hc
      by_cases h3 : r = 12
      · rw [if_pos h3] at hc; simp at hc; omega
      · rw [if_neg h3] at hc
        by_cases h4 : r = 10
        · rw [if_pos h4] at hc; simp at hc; omega
        · rw [if_neg h4] at hc
          by_cases h5 : r = 13
          · rw [if_pos h5] at hc; simp at hc; omega
          · rw [if_neg h5] at hc
            by_cases h6 : r = 9
            · rw [if_pos h6] at hc; simp at hc; omega
            · rw [if_neg h6] at hc; simp at hc; omega

theorem flat_print {R : Nat → Nat} (m : Nat) (h : ∀ k, k < m → R k ≤ 65535) : ∀ c ∈ flat R m, 32 ≤ c ∧ c ≤ 126 := by
  induction m with
  | zero => intro c hc; simp [flat] at hc
  | succ m ih =>
    intro c hc
    simp only [flat, List.mem_append] at hc
    rcases hc with hc | hc
    · exact ih (fun k hk => h k (by omega)) c hc
    · exact esc_print (h m (by omega)) c hc
theorem tf_print {R : Nat → Nat} {m : Nat} (h : ∀ k, k < m → R k ≤ 65535) {j : Nat} (hj : j < pos R m + 1) : 32 ≤ tf R m j ∧ tf R m j ≤ 126 := by
  have hl : j < (text R m).length := by rw [text_len]; exact hj
  have e : tf R m j = (text R m)[j] := by simp [tf, List.getD, hl]
  rw [e]
  have hm := List.getElem_mem hl
  unfold text at hm
  simp only [List.mem_cons, List.mem_append, List.not_mem_nil, or_false] at hm
  rcases hm with hm | hm | hm
  · unfold text; omega
  · exact flat_print m h _ hm
  · unfold text; omega
theorem tf_lt {R : Nat → Nat} {m : Nat} (h : ∀ k, k < m → R k ≤ 65535) (j : Nat) : tf R m j < 256 := by
  by_cases hj : j < pos R m + 1
  · have := tf_print h hj; omega
  · have : tf R m j = 0 := by simp [tf, List.getD, List.getElem?_eq_none (show (text R m).length ≤ j by rw [text_len]; omega)]
    omega

/-- An escape at j, of the character r, up to j'. -/
def EscAt (f : Nat → Nat) (j r j' : Nat) : Prop :=
  f j = 92 ∧ ((f (j + 1) ≠ 117 ∧ shortU (f (j + 1)) = (r : Int) ∧ j' = j + 2) ∨
    (f (j + 1) = 117 ∧ j' = j + 6 ∧ hexv (f (j + 2)) = ((r / 4096 : Nat) : Int) ∧ hexv (f (j + 3)) = ((r / 256 % 16 : Nat) : Int) ∧ hexv (f (j + 4)) = ((r / 16 % 16 : Nat) : Int) ∧ hexv (f (j + 5)) = ((r % 16 : Nat) : Int)))

theorem escAt_of {R : Nat → Nat} {k m : Nat} (h : k < m) (hr : R k ≤ 65535) : EscAt (tf R m) (pos R k) (R k) (pos R (k + 1)) := by
  have at_ : ∀ t, t < (esc (R k)).length → tf R m (pos R k + t) = (esc (R k)).getD t 0 := fun t ht => tf_at R h ht
  rw [pos_succ]
  generalize R k = r at *
  generalize pos R k = j at *
  generalize tf R m = f at *
  unfold esc at at_ ⊢
  unfold EscAt
  by_cases h1 : r = 34 ∨ r = 92
  · rw [if_pos h1] at at_ ⊢
    have a0 := at_ 0 (by simp); have a1 := at_ 1 (by simp)
    simp at a0 a1
    refine ⟨a0, .inl ⟨by omega, ?_, by simp⟩⟩
    rw [a1]
    rcases h1 with rfl | rfl <;> rfl
  · rw [if_neg h1] at at_ ⊢
    by_cases h2 : r = 8
    · rw [if_pos h2] at at_ ⊢
      have a0 := at_ 0 (by simp); have a1 := at_ 1 (by simp)
      simp at a0 a1
      exact ⟨a0, .inl ⟨by omega, by rw [a1, h2]; rfl, by simp⟩⟩
    · rw [if_neg h2] at at_ ⊢
      by_cases h3 : r = 12
      · rw [if_pos h3] at at_ ⊢
        have a0 := at_ 0 (by simp); have a1 := at_ 1 (by simp)
        simp at a0 a1
        exact ⟨a0, .inl ⟨by omega, by rw [a1, h3]; rfl, by simp⟩⟩
      · rw [if_neg h3] at at_ ⊢
        by_cases h4 : r = 10
        · rw [if_pos h4] at at_ ⊢
          have a0 := at_ 0 (by simp); have a1 := at_ 1 (by simp)
          simp at a0 a1
          exact ⟨a0, .inl ⟨by omega, by rw [a1, h4]; rfl, by simp⟩⟩
        · rw [if_neg h4] at at_ ⊢
          by_cases h5 : r = 13
          · rw [if_pos h5] at at_ ⊢
            have a0 := at_ 0 (by simp); have a1 := at_ 1 (by simp)
            simp at a0 a1
            exact ⟨a0, .inl ⟨by omega, by rw [a1, h5]; rfl, by simp⟩⟩
          · rw [if_neg h5] at at_ ⊢
            by_cases h6 : r = 9
            · rw [if_pos h6] at at_ ⊢
              have a0 := at_ 0 (by simp); have a1 := at_ 1 (by simp)
              simp at a0 a1
              exact ⟨a0, .inl ⟨by omega, by rw [a1, h6]; rfl, by simp⟩⟩
            · rw [if_neg h6] at at_ ⊢
              have a0 := at_ 0 (by simp); have a1 := at_ 1 (by simp); have a2 := at_ 2 (by simp); have a3 := at_ 3 (by simp); have a4 := at_ 4 (by simp); have a5 := at_ 5 (by simp)
              simp at a0 a1 a2 a3 a4 a5
              refine ⟨a0, .inr ⟨a1, by simp, ?_, ?_, ?_, ?_⟩⟩
              · rw [a2]; exact hexv_hd (by omega)
              · rw [a3]; exact hexv_hd (by omega)
              · rw [a4]; exact hexv_hd (by omega)
              · rw [a5]; exact hexv_hd (by omega)

theorem EscAt.next {f : Nat → Nat} {j r j' : Nat} (h : EscAt f j r j') : j + 2 ≤ j' ∧ j' ≤ j + 6 := by
  rcases h.2 with ⟨_, _, e⟩ | ⟨_, e, _⟩ <;> omega

/-- The reader passes over an escape. -/
theorem strM_esc {f : Nat → Nat} {n q j r j' : Nat} (h : EscAt f j r j') (hj : j' < n) : strM f n (q + 1) j = strM f n q j' := by
  have hn := h.next
  obtain ⟨h0, h1⟩ := h
  rw [strM, if_pos (by omega), if_neg (by omega), if_pos h0, if_pos (by omega)]
  rcases h1 with ⟨a, b, rfl⟩ | ⟨a, rfl, b1, b2, b3, b4⟩
  · rw [if_neg a, if_pos (by omega)]
  · rw [if_pos a, if_pos (by omega), if_pos (by omega)]

theorem strM_text (R : Nat → Nat) (m : Nat) (h : ∀ k, k < m → R k ≤ 65535) : ∀ d k q, k + d = m → d < q → strM (tf R m) (pos R m + 1) q (pos R k) = some (pos R m + 1) := by
  intro d
  induction d with
  | zero =>
    intro k q hk hq
    obtain rfl : k = m := by omega
    obtain ⟨q, rfl⟩ : ∃ q', q = q' + 1 := ⟨q - 1, by omega⟩
    rw [strM, if_pos (by omega), if_pos (tf_last R k)]
  | succ d ih =>
    intro k q hk hq
    obtain ⟨q, rfl⟩ : ∃ q', q = q' + 1 := ⟨q - 1, by omega⟩
    have hle := pos_le R (show k + 1 ≤ m by omega)
    rw [strM_esc (escAt_of (show k < m by omega) (h k (by omega))) (by omega)]
    exact ih (k + 1) q (by omega) (by omega)

theorem strM_whole (R : Nat → Nat) (m : Nat) (h : ∀ k, k < m → R k ≤ 65535) : strM (tf R m) (pos R m + 1) (pos R m + 1 + 1) (0 + 1) = some (pos R m + 1) := by
  have hm : m ≤ pos R m := by
    clear h
    induction m with
    | zero => omega
    | succ m ih => have := (esc_len (R m)).1; rw [pos_succ]; omega
  exact strM_text R m h m 0 _ (by omega) (by omega)
end Go.Proofs.Qxb6601357a.J
