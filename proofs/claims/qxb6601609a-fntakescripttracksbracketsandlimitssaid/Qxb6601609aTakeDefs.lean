import Derived.Test.Qxb6601609aLeaves
import Derived.StillTactics
import Derived.Laws.Pointers
import Derived.Laws.BytesArg
import Derived.WalkSmall
import Derived.Deep.RegionHeld3
import Derived.Deep.RegionLaw
import Derived.Deep.AppendLies
import Derived.Deep.DrawnRows
import Derived.Deep.Cut
import Derived.Deep.CutRange
import Derived.Deep.DeepCutAuto
namespace Go.Proofs.Qxb6601609a
open Go.RowKit
set_option linter.unusedVariables false

/-- The scanner's state lies in block G. -/
def NS (w : World) (G : Nat) (sv ov : Value) (m b d k f : Int) : Prop :=
  w.heap[G]? = some (.cells #[sv, ov, .int .i64 m, .int .i64 b, .int .i64 d, .int .i64 k, .int .i64 f] 50 (0, 0))
/-- The brackets' cells. -/
def brs (cl : Nat → Nat) (bd : Nat → Bool) : Nat → List Value
  | 0 => []
  | k + 1 => brs cl bd k ++ [.int .u8 (cl k), .bool (bd k)]

theorem NS.c0 {w : World} {G : Nat} {sv ov : Value} {m b d k f : Int} (h : NS w G sv ov m b d k f) : w.cell? ⟨G, 0, none⟩ = some sv := by unfold NS at h; simp [World.cell?, h]
theorem NS.c1 {w : World} {G : Nat} {sv ov : Value} {m b d k f : Int} (h : NS w G sv ov m b d k f) : w.cell? ⟨G, 1, none⟩ = some ov := by unfold NS at h; simp [World.cell?, h]
theorem NS.c2 {w : World} {G : Nat} {sv ov : Value} {m b d k f : Int} (h : NS w G sv ov m b d k f) : w.cell? ⟨G, 2, none⟩ = some (.int .i64 m) := by unfold NS at h; simp [World.cell?, h]
theorem NS.c3 {w : World} {G : Nat} {sv ov : Value} {m b d k f : Int} (h : NS w G sv ov m b d k f) : w.cell? ⟨G, 3, none⟩ = some (.int .i64 b) := by unfold NS at h; simp [World.cell?, h]
theorem NS.c4 {w : World} {G : Nat} {sv ov : Value} {m b d k f : Int} (h : NS w G sv ov m b d k f) : w.cell? ⟨G, 4, none⟩ = some (.int .i64 d) := by unfold NS at h; simp [World.cell?, h]
theorem NS.c5 {w : World} {G : Nat} {sv ov : Value} {m b d k f : Int} (h : NS w G sv ov m b d k f) : w.cell? ⟨G, 5, none⟩ = some (.int .i64 k) := by unfold NS at h; simp [World.cell?, h]
theorem NS.c6 {w : World} {G : Nat} {sv ov : Value} {m b d k f : Int} (h : NS w G sv ov m b d k f) : w.cell? ⟨G, 6, none⟩ = some (.int .i64 f) := by unfold NS at h; simp [World.cell?, h]
theorem NS.fz {w : World} {G : Nat} {sv ov : Value} {m b d k f : Int} (h : NS w G sv ov m b d k f) (j : Nat) : w.frozen? ⟨G, j, none⟩ = false := by unfold NS at h; simp [World.frozen?, h]
theorem NS.lt {w : World} {G : Nat} {sv ov : Value} {m b d k f : Int} (h : NS w G sv ov m b d k f) : G < w.heap.size := (Array.getElem?_eq_some_iff.1 h).1
theorem NS.drewN {w : World} {G : Nat} {sv ov : Value} {m b d k f : Int} (h : NS w G sv ov m b d k f) (n : Nat) : NS (w.drewN n) G sv ov m b d k f := h
theorem NS.s1 {w : World} {G : Nat} {sv ov : Value} {m b d k f : Int} (h : NS w G sv ov m b d k f) (v : Value) : NS (w.setCell ⟨G, 1, none⟩ v) G sv v m b d k f := by unfold NS at *; simp [World.setCell, Array.getElem?_modify, h]
theorem NS.s2 {w : World} {G : Nat} {sv ov : Value} {m b d k f : Int} (h : NS w G sv ov m b d k f) (v : Int) : NS (w.setCell ⟨G, 2, none⟩ (.int .i64 v)) G sv ov v b d k f := by unfold NS at *; simp [World.setCell, Array.getElem?_modify, h]
theorem NS.s3 {w : World} {G : Nat} {sv ov : Value} {m b d k f : Int} (h : NS w G sv ov m b d k f) (v : Int) : NS (w.setCell ⟨G, 3, none⟩ (.int .i64 v)) G sv ov m v d k f := by unfold NS at *; simp [World.setCell, Array.getElem?_modify, h]
theorem NS.s4 {w : World} {G : Nat} {sv ov : Value} {m b d k f : Int} (h : NS w G sv ov m b d k f) (v : Int) : NS (w.setCell ⟨G, 4, none⟩ (.int .i64 v)) G sv ov m b v k f := by unfold NS at *; simp [World.setCell, Array.getElem?_modify, h]
theorem NS.s5 {w : World} {G : Nat} {sv ov : Value} {m b d k f : Int} (h : NS w G sv ov m b d k f) (v : Int) : NS (w.setCell ⟨G, 5, none⟩ (.int .i64 v)) G sv ov m b d v f := by unfold NS at *; simp [World.setCell, Array.getElem?_modify, h]
theorem NS.s6 {w : World} {G : Nat} {sv ov : Value} {m b d k f : Int} (h : NS w G sv ov m b d k f) (v : Int) : NS (w.setCell ⟨G, 6, none⟩ (.int .i64 v)) G sv ov m b d k v := by unfold NS at *; simp [World.setCell, Array.getElem?_modify, h]
theorem below_dr {B : Nat} {w w' : World} (h : Below B w w') (d : Nat) : Below B w (w'.drewN d) := ⟨h.os, h.tape, h.output, h.size, h.block⟩
theorem Has.below {w w' : World} {b off n B : Nat} {f : Nat → Nat} (h : Has w b off n f) (hb : Below B w w') (hB : b < B) : Has w' b off n f := ⟨fun i hi => (hb.cell (p := ⟨b, off + i, none⟩) hB).trans (h.cell i hi)⟩


theorem closerOf_zero (c : Nat) (w : World) (h : cof c = 0) : Calls Try.prog 27 #[.int .u8 c] w fun e w' => e = .returned (.int .u8 0) ∧ w' = w := by
  refine (closerOf_any c w).mono ?_
  rintro e w' ⟨rfl, rfl⟩
  rw [h]; exact ⟨rfl, rfl⟩

theorem brs_length (cl : Nat → Nat) (bd : Nat → Bool) (k : Nat) : (brs cl bd k).length = k * 2 := by
  induction k with
  | zero => rfl
  | succ k ih => simp [brs, ih]; omega
theorem brs_get (cl : Nat → Nat) (bd : Nat → Bool) {i k : Nat} (h : i < k) : (brs cl bd k)[i * 2]? = some (.int .u8 (cl i)) ∧ (brs cl bd k)[i * 2 + 1]? = some (.bool (bd i)) := by
  induction k with
  | zero => omega
  | succ k ih =>
    unfold brs
    by_cases e : i = k
    · subst e
      rw [List.getElem?_append_right (by rw [brs_length]; omega), List.getElem?_append_right (by rw [brs_length]; omega), brs_length]
      simp
    · rw [List.getElem?_append_left (by rw [brs_length]; omega), List.getElem?_append_left (by rw [brs_length]; omega)]
      exact ih (by omega)

/-- The row of brackets, as it is read. -/
theorem open_read {w : World} {lo N : Nat} {ov : Value} {cl : Nat → Nat} {bd : Nat → Bool} (hown : w.ownsRow lo 47 2 ov N (brs cl bd N)) :
    ∃ oa cap, ov = .slice oa N cap ∧ N ≤ cap ∧ (0 < N → ∃ g, oa = some ⟨g, 0, none⟩ ∧ lo ≤ g ∧ g < w.heap.size ∧ ∀ i, i < N → w.cell? ⟨g, i * 2, none⟩ = some (.int .u8 (cl i)) ∧ w.cell? ⟨g, i * 2 + 1, none⟩ = some (.bool (bd i))) := by
  have hown' := hown
  rcases hown.2 with ⟨e, e0⟩ | ⟨g, cap, cur, e, hg, hh, h1, h2, h3, h4⟩
  · subst e0; exact ⟨none, 0, e, Nat.le_refl _, fun h => absurd h (by omega)⟩
  · subst e
    refine ⟨_, cap, rfl, h1, fun _ => ⟨g, rfl, hg, (Array.getElem?_eq_some_iff.1 hh).1, fun i hi => ?_⟩⟩
    rw [hown'.cellAt (i * 2) (by omega), hown'.cellAt (i * 2 + 1) (by omega)]
    exact brs_get cl bd hi

theorem own_below {w w' : World} {lo G N : Nat} {ov : Value} {xs : List Value} (hown : w.ownsRow lo 47 2 ov N xs) (hgo : ∀ g, ov.ownBlock = some g → g < G) (hb : Below G w w') : w'.ownsRow lo 47 2 ov N xs := by
  refine ⟨hown.1, ?_⟩
  rcases hown.2 with h | ⟨g, cap, cur, e, hg, hh, r⟩
  · exact .inl h
  · refine .inr ⟨g, cap, cur, e, hg, ?_, r⟩
    rw [hb.block g (hgo g (by rw [e]; rfl))]
    exact hh

/-- The scanner's state behind a token. -/
structure Out where
  N : Nat
  m : Int
  b : Int
  d : Int
  k : Int
  f : Int

/-- What take answers where nothing is refused. -/
def TN (G lo : Nat) (sv : Value) (cl : Nat → Nat) (bd : Nat → Bool) (o : Out) (w : World) (e : Ending) (w' : World) : Prop :=
  ∃ ov', e = .returned (.tuple #[.int .i64 0, .pointer none]) ∧ w'.ownsRow lo 47 2 ov' o.N (brs cl bd o.N) ∧ (∀ g, ov'.ownBlock = some g → g < G) ∧ NS w' G sv ov' o.m o.b o.d o.k o.f ∧ Below G w w'

theorem brs_pop {w : World} {lo N g cap : Nat} {cl : Nat → Nat} {bd : Nat → Bool} (hN : 0 < N) (h : w.ownsRow lo 47 2 (.slice (some ⟨g, 0, none⟩) N cap) N (brs cl bd N)) :
    w.ownsRow lo 47 2 (.slice (some ⟨g, 0, none⟩) (N - 1) cap) (N - 1) (brs cl bd (N - 1)) := by
  obtain ⟨q, rfl⟩ : ∃ q, N = q + 1 := ⟨N - 1, by omega⟩
  exact ownsRow_pop (brs_length cl bd q) h

/-- A closing token. -/
def nA (N c tc : Nat) : Nat := if 0 < N ∧ tc = c then N - 1 else N
def mA (N c tc : Nat) (tb : Bool) (m : Int) : Int := if 0 < N ∧ tc = c then (if tb then wrap64 (m - 1) else m) else m
def outA (N c tc : Nat) (tb : Bool) (m b d : Int) : Out :=
  ⟨nA N c tc, mA N c tc tb m, if (nA N c tc : Int) < b then -1 else b, d, -1, -1⟩

end Go.Proofs.Qxb6601609a
