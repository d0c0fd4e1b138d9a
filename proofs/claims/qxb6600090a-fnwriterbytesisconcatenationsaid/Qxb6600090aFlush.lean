/-
  (*writer).flush; AND THE PLAIN FACTS ON ROWS OF PIECES AND ON CONCATENATION.
-/
import Derived.Test.Qxb6600090aWriter
namespace Go.Proofs.Qxb6600090a
open Go.RowKit
attribute [local go_sem ↓] Go.wp_at_zero Go.wp_at_succ

theorem flush_no (G : Nat) (pv : Value) (oo : Option Addr) (oc : Nat) (w : World) (hwb : w.heap[G]? = some (.cells #[pv, .slice oo 0 oc] 42 (0, 0))) :
    Calls Try.prog 27 #[.pointer (some ⟨G, 0, none⟩)] w fun e w' => e = .returned (.tuple #[]) ∧ w' = w := by
  have hp1 : w.cell? ⟨G, 1, none⟩ = some (.slice oo 0 oc) := by simp [World.cell?, hwb]
  clear hwb
  go_enter Try.func27, Try.ntmps27
  go_wp2
  go_end0
  exact ⟨rfl, rfl⟩

set_option maxRecDepth 100000 in
set_option maxHeartbeats 3200000 in
theorem flush_yes (G : Nat) (pv : Value) (oo : Option Addr) (on oc M : Nat) (xs : List Value) (w : World) (hon : 0 < on) (hM : M ≤ 65536) (hwb : w.heap[G]? = some (.cells #[pv, .slice oo on oc] 42 (0, 0)))
    (hown : w.ownsRow (G + 1) 44 5 pv M xs) :
    Calls Try.prog 27 #[.pointer (some ⟨G, 0, none⟩)] w fun e w' => ∃ pv', e = .returned (.tuple #[]) ∧ w'.heap[G]? = some (.cells #[pv', .slice none 0 0] 42 (0, 0)) ∧
      w'.ownsRow (G + 1) 44 5 pv' (M + 1) (xs ++ pc oo on oc) ∧ Below G w w' := by
  obtain ⟨i0, hi0, hz0, hz1, hz2⟩ := info_parts Try.info44
  have hp1 : w.cell? ⟨G, 1, none⟩ = some (.slice oo on oc) := by simp [World.cell?, hwb]
  have hp0 : w.cell? ⟨G, 0, none⟩ = some pv := by simp [World.cell?, hwb]
  have hg : G < w.heap.size := (Array.getElem?_eq_some_iff.1 hwb).1
  have ag : pv.ownBlock ≠ some G := fun e => by have := (hown.lt _ e).1; omega
  go_enter Try.func27, Try.ntmps27
  go_wp2_with fail
  go_region_law
        ((refine step_append_lies _ (by rfl) _ _ _ (by rfl) (G + 1) 44 i0 _ 5 56 Try.underlying40 hi0 hz0 hz1 hz2 rfl (by omega) pv M xs (by rfl) ((hown.alloc _).drew)
            ⟨w.heap.size, 0, none⟩ 1 1 (pc oo on oc) (by rfl) (by rfl) (World.news_of_block (cs := #[.slice oo on oc, .int .i64 0, .int .i64 0, .bool false, .int .i64 0]) (t := 44) (fr := (0, 0)) (heap_alloc_new w _)) (by simp [pc, Value.oneCell'])
            (by omega) (by unfold maxLen; omega) (by omega) (by simp; omega) (w.heap.size + 1) (by simp) ?_; intro gg cap w1 hown1 hgrow hat hglt; have hbk := box_kept hwb hgrow ag; have c1 : w1.cell? ⟨G, 0, none⟩ = some pv := by { simp [World.cell?, hbk] }; have f1 : w1.frozen? ⟨G, 0, none⟩ = false := by { simp [World.frozen?, hbk] }))
  all_goals
    have hbk2 := box_set hbk (v := .slice (some ⟨gg, 0, none⟩) (M + 1) cap)
    have hown2 := ownsRow_setCell_below hown1 (a := ⟨G, 0, none⟩) (by simp) (.slice (some ⟨gg, 0, none⟩) (M + 1) cap)
    have hb1 : Below G w w1 := (((Below.refl G w).alloc (by omega) _).drew).grown hgrow (by simp; omega) (fun j e => by have := (hown.lt j e).1; omega)
    have hb2 := hb1.setCell (p := ⟨G, 0, none⟩) (Nat.le_refl _) (.slice (some ⟨gg, 0, none⟩) (M + 1) cap)
    clear hb1
    clear hgrow hown1 hown hwb hp0 hp1 hbk c1 f1 hat
    generalize w1.setCell ⟨G, 0, none⟩ (.slice (some ⟨gg, 0, none⟩) (M + 1) cap) = w2 at *
    have c2 : w2.cell? ⟨G, 1, none⟩ = some (.slice oo on oc) := by simp [World.cell?, hbk2]
    have f2 : w2.frozen? ⟨G, 1, none⟩ = false := by simp [World.frozen?, hbk2]
    go_wp2_with fail
    go_end0
    exact ⟨_, rfl, box_set1 hbk2, ownsRow_setCell_below hown2 (a := ⟨G, 1, none⟩) (by simp) _, hb2.setCell (Nat.le_refl _) _⟩

/-- How long the first k are together. -/
def sumL (L : Nat → Nat) : Nat → Nat
  | 0 => 0
  | k + 1 => sumL L k + L k
theorem sumL_mono (L : Nat → Nat) {i k : Nat} (h : i ≤ k) : sumL L i ≤ sumL L k := by
  induction k with
  | zero => have : i = 0 := by omega
            subst this; exact Nat.le_refl _
  | succ k ih =>
    by_cases e : i = k + 1
    · subst e; exact Nat.le_refl _
    · have := ih (by omega)
      show _ ≤ sumL L k + L k
      omega
theorem sumL_add_le (L : Nat → Nat) {i k : Nat} (h : i < k) : sumL L i + L i ≤ sumL L k := sumL_mono L (i := i + 1) (by omega)

/-- The first k, one after another, as cells. -/
def catL (L : Nat → Nat) (z : Nat → Nat → Int) : Nat → List Value
  | 0 => []
  | k + 1 => catL L z k ++ (List.range (L k)).map fun j => .int .u8 (z k j)
theorem catL_length (L : Nat → Nat) (z : Nat → Nat → Int) (k : Nat) : (catL L z k).length = sumL L k := by
  induction k with
  | zero => rfl
  | succ k ih => simp [catL, sumL, ih]
theorem catL_get (L : Nat → Nat) (z : Nat → Nat → Int) {i k : Nat} (h : i < k) {j : Nat} (hj : j < L i) : (catL L z k)[sumL L i + j]? = some (.int .u8 (z i j)) := by
  induction k with
  | zero => omega
  | succ k ih =>
    unfold catL
    by_cases e : i = k
    · subst e
      rw [List.getElem?_append_right (by rw [catL_length]; omega), catL_length]
      simp [hj]
    · have := sumL_add_le L (i := i) (k := k) (by omega)
      rw [List.getElem?_append_left (by rw [catL_length]; omega)]
      exact ih (by omega)

/-- The bytes of the first M slices lie one after another. -/
def CatAt (w : World) (go : Option Addr) (M : Nat) (L : Nat → Nat) (z : Nat → Nat → Int) : Prop :=
  0 < sumL L M → ∃ b off, go = some ⟨b, off, none⟩ ∧ b < w.heap.size ∧ ∀ i, i < M → ∀ j, j < L i → w.cell? ⟨b, off + (sumL L i + j), none⟩ = some (.int .u8 (z i j))

theorem pcs_length (A : Nat → Option Addr) (L C : Nat → Nat) (k : Nat) : (pcs A L C k).length = k * 5 := by
  induction k with
  | zero => rfl
  | succ k ih => simp [pcs, pc, ih]; omega
theorem pcs_get (A : Nat → Option Addr) (L C : Nat → Nat) {i k : Nat} (h : i < k) {j : Nat} (hj : j < 5) : (pcs A L C k)[i * 5 + j]? = (pc (A i) (L i) (C i))[j]? := by
  induction k with
  | zero => omega
  | succ k ih =>
    unfold pcs
    by_cases e : i = k
    · subst e
      rw [List.getElem?_append_right (by rw [pcs_length]; omega), pcs_length]
      congr 1
      omega
    · rw [List.getElem?_append_left (by rw [pcs_length]; omega)]
      exact ih (by omega)

/-- The row of pieces, as it is read. -/
theorem row_read {w : World} {base M : Nat} {pv : Value} {A : Nat → Option Addr} {L C : Nat → Nat} (hown : w.ownsRow base 44 5 pv M (pcs A L C M)) :
    ∃ pa cap, pv = .slice pa M cap ∧ (0 < M → ∃ pb, pa = some ⟨pb, 0, none⟩ ∧ pb < w.heap.size ∧ ∀ k, k < M → ∀ j, j < 5 → w.cell? ⟨pb, k * 5 + j, none⟩ = (pc (A k) (L k) (C k))[j]?) := by
  have hown' := hown
  rcases hown.2 with ⟨e, e0⟩ | ⟨g, cap, cur, e, hg, hh, h1, h2, h3, h4⟩
  · subst e0; exact ⟨none, 0, e, fun h => absurd h (by omega)⟩
  · subst e
    refine ⟨_, cap, rfl, fun _ => ⟨g, rfl, (Array.getElem?_eq_some_iff.1 hh).1, fun k hk j hj => ?_⟩⟩
    rw [hown'.cellAt (k * 5 + j) (by omega)]
    exact pcs_get A L C hk hj
end Go.Proofs.Qxb6600090a
