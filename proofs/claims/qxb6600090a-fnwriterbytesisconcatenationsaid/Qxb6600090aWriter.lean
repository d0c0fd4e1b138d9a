/-
  ZZNewWriter: THE WRITER IN MEMORY: one block of two cells, and the row of its pieces.
-/
import Derived.Test.Qxb6600090aCloneAll
import Derived.StillTactics
import Derived.Laws.Pointers
import Derived.Deep.RegionHeld3
import Derived.Deep.RegionLaw
import Derived.Deep.AppendLies
import Derived.Deep.DrawnRows
namespace Go.Proofs.Qxb6600090a
open Go.RowKit
attribute [local go_sem ↓] Go.wp_at_zero Go.wp_at_succ

theorem Try.info44 : (Try.prog.info? 44).map (fun i => (i.zero, i.size, i.bytes)) = some (some (.agg #[.slice none 0 0, .int .i64 0, .int .i64 0, .bool false, .int .i64 0]), 5, 56) := by kernel_rfl

/-- A piece's five cells. -/
def pc (a : Option Addr) (l c : Nat) : List Value := [.slice a l c, .int .i64 0, .int .i64 0, .bool false, .int .i64 0]
/-- The first k pieces' cells. -/
def pcs (A : Nat → Option Addr) (L C : Nat → Nat) : Nat → List Value
  | 0 => []
  | k + 1 => pcs A L C k ++ pc (A k) (L k) (C k)

/-- A block that was there, and is not the row that was appended to, is as it was. -/
theorem box_kept {wr w1 : World} {cs : Array Value} {t : TypeId} {row : Option Nat} {G : Nat} {o : Obj} (hw : wr.heap[G]? = some o) (hgrow : ((wr.alloc (.cells cs t)).drew).grownBy w1 row) (ag : row ≠ some G) : w1.heap[G]? = some o := by
  have hg : G < wr.heap.size := (Array.getElem?_eq_some_iff.1 hw).1
  rw [hgrow.block G (by simp; omega) (Ne.symm ag)]
  exact (Below.heap_alloc _ _ _ hg).trans hw

theorem box_set {w : World} {G : Nat} {a b v : Value} {t : TypeId} (hw : w.heap[G]? = some (.cells #[a, b] t (0, 0))) : (w.setCell ⟨G, 0, none⟩ v).heap[G]? = some (.cells #[v, b] t (0, 0)) := by
  simp [World.setCell, Array.getElem?_modify, hw]
theorem box_set1 {w : World} {G : Nat} {a b v : Value} {t : TypeId} (hw : w.heap[G]? = some (.cells #[a, b] t (0, 0))) : (w.setCell ⟨G, 1, none⟩ v).heap[G]? = some (.cells #[a, v] t (0, 0)) := by
  simp [World.setCell, Array.getElem?_modify, hw]

set_option maxRecDepth 100000 in
set_option maxHeartbeats 3200000 in
theorem newWriter_any (ao : Option Addr) (m c : Nat) (A : Nat → Option Addr) (L C : Nat → Nat) (oo : Option Addr) (on oc : Nat) (w : World) (hm : m ≤ 65536) (h : Outer w ao m A L C) :
    Calls Try.prog 16 #[.slice ao m c, .slice oo on oc] w fun e w' => ∃ pv, e = .returned (.pointer (some ⟨w.heap.size, 0, none⟩)) ∧ w'.heap[w.heap.size]? = some (.cells #[pv, .slice oo on oc] 42 (0, 0)) ∧
      w'.ownsRow (w.heap.size + 1) 44 5 pv m (pcs A L C m) ∧ Below w.heap.size w w' := by
  obtain ⟨i0, hi0, hz0, hz1, hz2⟩ := info_parts Try.info44
  go_enter Try.func16, Try.ntmps16
  go_wp2_with fail
  go_loopw [6] (fun i wr => ∃ (k : Nat) (pv : Value), k ≤ m ∧ i = .int .i64 k ∧ wr.heap[w.heap.size]? = some (.cells #[pv, .slice oo on oc] 42 (0, 0)) ∧ wr.ownsRow (w.heap.size + 1) 44 5 pv k (pcs A L C k) ∧ Below w.heap.size w wr)
    (fun i _ => m - (intOf i).toNat)
  case atStart =>
    refine ⟨0, .slice none 0 0, by omega, rfl, ?_, World.ownsRow_nil _ _ _ _, (Below.refl _ _).alloc (Nat.le_refl _) _⟩
    exact heap_alloc_new _ _
  case round =>
    obtain ⟨k, pv, hk, rfl, hwb, hown, hb⟩ := hrel
    by_cases hlt : k < m
    · obtain ⟨b, off, rfl, hbl, hc⟩ := h.at_ (by omega)
      have hcell : wr.cell? ⟨b, off + k, none⟩ = some (.slice (A k) (L k) (C k)) := (hb.cell (p := ⟨b, off + k, none⟩) hbl).trans (hc k hlt)
      have hg : w.heap.size < wr.heap.size := by have := (Array.getElem?_eq_some_iff.1 hwb).1; omega
      have hp0 : wr.cell? ⟨w.heap.size, 0, none⟩ = some pv := by simp [World.cell?, hwb]
      have hf0 : wr.frozen? ⟨w.heap.size, 0, none⟩ = false := by simp [World.frozen?, hwb]
      clear hc
      have k0 : (0 : Int) ≤ (k : Int) := Int.natCast_nonneg _
      have k1 : (k : Int) < (m : Int) := by omega
      have ag : pv.ownBlock ≠ some w.heap.size := fun e => by have := (hown.lt _ e).1; omega
      have ak : pv.ownBlock ≠ some b := fun e => by have := (hown.lt _ e).1; omega
      have lb : b < wr.heap.size := by omega
      go_wp2_with fail
      go_region_law
        ((refine step_append_lies _ (by rfl) _ _ _ (by rfl) (w.heap.size + 1) 44 i0 _ 5 56 Try.underlying40 hi0 hz0 hz1 hz2 rfl (by omega) pv k (pcs A L C k) (by rfl) ((hown.alloc _).drew)
            ⟨wr.heap.size, 0, none⟩ 1 1 (pc (A k) (L k) (C k)) (by rfl) (by rfl) (World.news_of_block (cs := #[.slice (A k) (L k) (C k), .int .i64 0, .int .i64 0, .bool false, .int .i64 0]) (t := 44) (fr := (0, 0)) (heap_alloc_new wr _)) (by simp [pc, Value.oneCell'])
            (by omega) (by unfold maxLen; omega) (by omega) (by simp; omega) (wr.heap.size + 1) (by simp) ?_; intro gg cap w1 hown1 hgrow hat hglt; have hbk := box_kept hwb hgrow ag; have c1 : w1.cell? ⟨w.heap.size, 0, none⟩ = some pv := by { simp [World.cell?, hbk] }; have f1 : w1.frozen? ⟨w.heap.size, 0, none⟩ = false := by { simp [World.frozen?, hbk] }))
      all_goals
        have hbk2 := box_set hbk (v := .slice (some ⟨gg, 0, none⟩) (k + 1) cap)
        have hown2 := ownsRow_setCell_below hown1 (a := ⟨w.heap.size, 0, none⟩) (by simp) (.slice (some ⟨gg, 0, none⟩) (k + 1) cap)
        have hb2 : Below w.heap.size w w1 := ((hb.alloc hb.size _).drew).grown hgrow (by have := hb.size; simp; omega) (fun j e => by have := (hown.lt j e).1; omega)
        clear hgrow hown1 hown hwb hp0 hf0 hcell c1 f1 hat
        go_wp2_with fail
        go_roundw
        case rel => exact ⟨k + 1, _, by omega, by go_num, hbk2, hown2, hb2.setCell (Nat.le_refl _) _⟩
        case measure => simp [intOf]; omega
    · have e : k = m := by omega
      subst e
      go_wp2_with fail
      go_ret
      exact ⟨pv, rfl, hwb, hown, hb⟩
end Go.Proofs.Qxb6600090a
