/-
  THE WALK OF FnWriterBytesIsConcatenation, OVER SLICES THAT ARE READ.
-/
import Derived.Test.Qxb6600090aWBytes
import Derived.Deep.QuietTactic
import Derived.BigQuiet
namespace Go.Proofs.Qxb6600090a
open Go.RowKit

theorem below_dr {B : Nat} {w w' : World} (h : Below B w w') (d : Nat) : Below B w (w'.drewN d) := ⟨h.os, h.tape, h.output, h.size, h.block⟩
theorem outer_ext {w : World} {to : Option Addr} {m : Nat} {B : Nat → Option Addr} {L C : Nat → Nat} {oo : Option Addr} (h : Outer w to m B L C) : Outer w to m (fun i => if i = m then oo else B i) L C := by
  refine ⟨fun hm => ?_⟩
  obtain ⟨b, off, e, hl, hc⟩ := h.at_ hm
  refine ⟨b, off, e, hl, fun i hi => ?_⟩
  have : i ≠ m := by omega
  simp only [this, if_false]
  exact hc i hi

theorem prd_of {w w' : World} {lo M : Nat} {E : Nat → Option Addr} {L : Nat → Nat} {z : Nat → Nat → Int} (h : Rds w lo E L z M) (hb : Below w.heap.size w w') : PRd w' w.heap.size M E L z := by
  intro i hi
  refine ⟨(h i hi).1, fun hl => ?_⟩
  obtain ⟨b, off, e, hbl, hc⟩ := (h i hi).2.1.at_ hl
  exact ⟨b, off, e, hbl, fun j hj => (hb.cell (p := ⟨b, off + j, none⟩) hbl).trans (hc j hj)⟩

set_option maxRecDepth 100000 in
set_option maxHeartbeats 3200000 in
theorem walkW (ao : Option Addr) (m c : Nat) (A : Nat → Option Addr) (L C : Nat → Nat) (z : Nat → Nat → Int) (w : World) (h0 : ao = none → m = 0)
    (h : Outer w ao m A L C) (hR : Rds w 0 A L z (m + 1)) :
    Calls Try.prog 5 #[.slice ao m c, .slice (A m) (L m) (C m)] w fun e w' => e = .returned (.bool true) ∧ Below w.heap.size w w' := by
  have hR0 : Rds w 0 A L z m := fun i hi => hR i (by omega)
  go_enter Try.func5, Try.ntmps5
  go_wp2_with fail
  refine (bytesW_any ao m c A L C (A m) (L m) (C m) w h).mono ?_
  rintro e w' ⟨b, rfl, hw', hbb⟩
  subst w'
  cases b with
  | false =>
    go_wp2_with fail
    go_ret
    exact ⟨rfl, Below.refl _ _⟩
  | true =>
    have hall := hbb rfl
    clear hbb
    by_cases hm : m ≤ 65536
    · by_cases hon : L m ≤ 1048576
      · have hd1 : decide ((65536 : Int) < (m : Int)) = false := by simp; omega
        have hd2 : decide ((1048576 : Int) < (L m : Int)) = false := by simp; omega
        go_wp2_with fail
        go_loop [5, 6] (fun t i => ∃ k : Nat, k ≤ m ∧ i = .int .i64 k ∧ t = .int .i64 ((24 * m + L m + sumL L k : Nat) : Int) ∧ (k = 0 ∨ 24 * m + L m + sumL L k ≤ 1048576)) (fun _ i => m - (intOf i).toNat)
        case atStart => exact ⟨0, by omega, rfl, by simp [sumL], .inl rfl⟩
        case round =>
          obtain ⟨k, hk, rfl, rfl, hs⟩ := hrel
          have hbd : 24 * m + L m + sumL L k ≤ 4000000 := by
            rcases hs with rfl | hs
            · simp [sumL]; omega
            · omega
          by_cases hlt : k < m
          · obtain ⟨b, off, rfl, hbl, hc⟩ := h.at_ (by omega)
            have hcell := hc k hlt
            have hLk := hall k hlt
            clear hc hs
            by_cases h2 : 24 * m + L m + sumL L k + L k ≤ 1048576
            · go_wp2_with fail
              go_round
              case rel =>
                refine ⟨k + 1, by omega, by go_num, ?_, .inr (by simp [sumL]; omega)⟩
                show _ = Value.int .i64 ((24 * m + L m + (sumL L k + L k) : Nat) : Int)
                go_num
              case measure => simp [intOf]; omega
            · go_wp2_with fail
              go_ret
              exact ⟨rfl, Below.refl _ _⟩
          · have e : m = k := by omega
            subst e
            clear hs hlt hk
            by_cases h3 : 24 * m + L m + sumL L m ≤ 1048576
            · have h3' : ¬ (1048576 : Int) < 24 * (m : Int) + (L m : Int) + (sumL L m : Int) := by omega
              go_wp2_with (first
                | (go_at_call 13; refine (cloneAll_any ao m c A L C z _ hm hall h0 h hR0).mono ?_; rintro e w1 ⟨to, B, rfl, hO1, hR1, hb1⟩)
                | (go_at_call 14; refine (clone_any (A m) (L m) (C m) (z m) _ hon (hR m (by omega)).1 ((hR m (by omega)).2.1.size hb1)).mono ?_; rintro e w2 ⟨oo, rfl, ho0, ho, hb2, hob⟩))
              have hO2 : Outer w2 to m (fun i => if i = m then oo else B i) L L := outer_ext (hO1.size hb2)
              have hR2 : Rds w2 w.heap.size (fun i => if i = m then oo else B i) L z (m + 1) := (hR1.size hb2).snoc oo ho0 ho (fun x hx => by have := hob x hx; have := hb1.size; omega)
              have ebm : (fun i => if i = m then oo else B i) m = oo := by simp
              generalize (fun i => if i = m then oo else B i) = E at *
              subst ebm
              have hb02 : Below w.heap.size w w2 := hb1.trans (hb2.mono hb1.size)
              clear hR hR0 h hO1 hR1 ho ho0 hob hb1 hb2 hall
              go_loop [7, 8] (fun t i => ∃ k : Nat, k ≤ m ∧ i = .int .i64 k ∧ t = .int .i64 ((L m + sumL L k : Nat) : Int)) (fun _ i => m - (intOf i).toNat)
              case atStart => exact ⟨0, by omega, rfl, by simp [sumL]⟩
              case round =>
                obtain ⟨k, hk, rfl, rfl⟩ := hrel
                by_cases hlt : k < m
                · obtain ⟨b, off, rfl, hbl, hc⟩ := hO2.at_ (by omega)
                  have hcell := hc k hlt
                  have hle := sumL_add_le L hlt
                  clear hc
                  go_wp2_with fail
                  go_round
                  case rel =>
                    refine ⟨k + 1, by omega, by go_num, ?_⟩
                    show _ = Value.int .i64 ((L m + (sumL L k + L k) : Nat) : Int)
                    go_num
                  case measure => simp [intOf]; omega
                · have e : m = k := by omega
                  subst e
                  clear hlt hk
                  have hne : (((sumL L (m + 1) : Nat) : Int) != (L m : Int) + (sumL L m : Int)) = false := by
                    have : sumL L (m + 1) = sumL L m + L m := rfl
                    rw [this]; simp; omega
                  have hS1 : sumL L (m + 1) ≤ 1048576 := by show sumL L m + L m ≤ _; omega
                  go_wp2_with (first
                    | (go_at_call 16; refine (newWriter_any to m m E L L (E m) (L m) (L m) _ hm hO2).mono ?_; rintro e w3 ⟨pv, rfl, hwb, hown, hb3⟩)
                    | (go_at_call 15; refine (zzwbytes_any w2.heap.size m pv E L z _ hm hS1 (prd_of hR2 hb3) hwb hown).mono ?_; rintro e w4 ⟨go', gc, rfl, hcat, hb4⟩))
                  have hb24 : Below w2.heap.size w2 w4 := hb3.trans hb4
                  have hO4 : Outer w4 to m E L L := hO2.size hb24
                  have hR4 : Rds w4 w.heap.size E L z (m + 1) := hR2.size hb24
                  have hend : Below w.heap.size w w4 := hb02.trans (hb24.mono hb02.size)
                  clear hO2 hR2 hb02 hb24 hb3 hb4 hwb hown hne h3 h3' hbd
                  go_loopw [10, 11] (fun kk i wr => ∃ q d : Nat, q ≤ m ∧ i = .int .i64 q ∧ kk = .int .i64 (sumL L q) ∧ wr = w4.drewN d) (fun _ i _ => m - (intOf i).toNat)
                  case atStart => exact ⟨0, 0, by omega, rfl, rfl, rfl⟩
                  case round =>
                    obtain ⟨q, d, hq, rfl, rfl, rfl⟩ := hrel
                    by_cases hlt : q < m
                    · obtain ⟨b, off, rfl, hbl, hc⟩ := hO4.at_ (by omega)
                      have hcell := hc q hlt
                      have hle := sumL_add_le L hlt
                      have hle2 := sumL_add_le L (show m < m + 1 by omega)
                      have hRq := (hR4 q (by omega)).2.1
                      generalize E q = ea at hcell hRq
                      clear hc
                      go_wp2_with fail
                      go_loopw [10, 13] (fun kk i wr => ∃ j d : Nat, j ≤ L q ∧ i = .int .i64 j ∧ kk = .int .i64 ((sumL L q + j : Nat) : Int) ∧ wr = w4.drewN d) (fun _ i _ => L q - (intOf i).toNat)
                      case atStart => exact ⟨0, d, by omega, rfl, by simp, rfl⟩
                      case round =>
                        obtain ⟨j, d2, hj, rfl, rfl, rfl⟩ := hrel
                        by_cases hjl : j < L q
                        · obtain ⟨gb, goff, rfl, hgl, hgc⟩ := hcat (by omega)
                          have g1 := hgc q (by omega) j hjl
                          obtain ⟨pb, poff, rfl, hpl, hpc⟩ := hRq.at_ (by omega)
                          have g2 := hpc j hjl
                          have i0 : (0 : Int) ≤ (sumL L q : Int) + (j : Int) := by omega
                          have i1 : (sumL L q : Int) + (j : Int) < (sumL L (m + 1) : Int) := by omega
                          have j0 : (0 : Int) ≤ (j : Int) := by omega
                          have j1 : (j : Int) < (L q : Int) := by omega
                          clear hgc hpc
                          go_wp2_with fail
                          go_quiet (fail)
                          go_wp2_with fail
                          go_roundw
                          case rel => exact ⟨j + 1, d2 + nq, by omega, by go_num, by go_num, rfl⟩
                          case measure => simp [intOf]; omega
                        · have e : L q = j := by omega
                          subst e
                          go_wp2_with fail
                          go_roundw
                          case rel => exact ⟨q + 1, d2, by omega, by go_num, rfl, rfl⟩
                          case measure => simp [intOf]; omega
                    · have e : m = q := by omega
                      subst e
                      clear hlt hq
                      have hle2 := sumL_add_le L (show m < m + 1 by omega)
                      have hRq := (hR4 m (by omega)).2.1
                      generalize E m = ea at *
                      clear hO4 hR4
                      go_wp2_with fail
                      go_loopw [10, 14] (fun kk i wr => ∃ j d : Nat, j ≤ L m ∧ i = .int .i64 j ∧ kk = .int .i64 ((sumL L m + j : Nat) : Int) ∧ wr = w4.drewN d) (fun _ i _ => L m - (intOf i).toNat)
                      case atStart => exact ⟨0, d, by omega, rfl, by simp, rfl⟩
                      case round =>
                        obtain ⟨j, d2, hj, rfl, rfl, rfl⟩ := hrel
                        by_cases hjl : j < L m
                        · obtain ⟨gb, goff, rfl, hgl, hgc⟩ := hcat (by omega)
                          have g1 := hgc m (by omega) j hjl
                          obtain ⟨pb, poff, rfl, hpl, hpc⟩ := hRq.at_ (by omega)
                          have g2 := hpc j hjl
                          have i0 : (0 : Int) ≤ (sumL L m : Int) + (j : Int) := by omega
                          have i1 : (sumL L m : Int) + (j : Int) < (sumL L (m + 1) : Int) := by omega
                          have j0 : (0 : Int) ≤ (j : Int) := by omega
                          have j1 : (j : Int) < (L m : Int) := by omega
                          clear hgc hpc
                          go_wp2_with fail
                          go_quiet (fail)
                          go_wp2_with fail
                          go_roundw
                          case rel => exact ⟨j + 1, d2 + nq, by omega, by go_num, by go_num, rfl⟩
                          case measure => simp [intOf]; omega
                        · go_wp2_with fail
                          go_ret
                          exact ⟨rfl, below_dr hend _⟩
            · go_wp2_with fail
              go_ret
              exact ⟨rfl, Below.refl _ _⟩
      · go_wp2_with fail
        go_ret
        exact ⟨rfl, Below.refl _ _⟩
    · go_wp2_with fail
      go_ret
      exact ⟨rfl, Below.refl _ _⟩
end Go.Proofs.Qxb6600090a
