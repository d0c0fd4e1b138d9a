import Derived.Test.Qxb6601609aTakeDefs
namespace Go.Proofs.Qxb6601609a
open Go.RowKit
set_option linter.unusedVariables false

theorem Try.info47 : (Try.prog.info? 47).map (fun i => (i.zero, i.size, i.bytes)) = some (some (.agg #[.int .u8 0, .bool false]), 2, 2) := by kernel_rfl
theorem mk_br (n : Nat) (hn : n ≤ 1048576) (w : World) :
    (Instr.makeSlice 45 (.int .i64 (n : Int)) (.int .i64 (n : Int))).run Try.prog w = .ok (.slice (some ⟨w.heap.size, 0, none⟩) n n) (w.alloc (.cells (madeCells #[.int .u8 0, .bool false] (n * 2)) 47)) := by
  obtain ⟨i, hi, hz, hs, hb⟩ := info_parts Try.info47
  have hr := run_make (P := Try.prog) w 45 47 i _ Try.underlying45 hi hz .i64 .i64 n n (by omega) (Int.le_refl _) (by rw [hb]; omega) (by omega)
  simp only [Int.toNat_natCast, hs] at hr
  exact hr
theorem brs_set (cl : Nat → Nat) (bd : Nat → Bool) (k : Nat) (x y : Value) (zs : List Value) (hx : x = .int .u8 (cl k)) (hy : y = .bool (bd k)) (hz : 2 ≤ zs.length) :
    ((brs cl bd k ++ zs).set (k * 2) x).set (k * 2 + 1) y = brs cl bd (k + 1) ++ zs.drop 2 := by
  match zs, hz with
  | a :: b :: zs, _ =>
    subst hx hy
    rw [List.set_append_right _ _ (by rw [brs_length]; omega), brs_length]
    rw [List.set_append_right _ _ (by rw [brs_length]; omega), brs_length]
    simp [brs]

structure Out2 where
  N : Nat
  cl : Nat → Nat
  bd : Nat → Bool
  m : Int
  b : Int
  d : Int
  k : Int
  f : Int
  a : Int
  er : Option (ByteArray × Int × Int)

/-- The refusal that is answered. -/
def ErrAt (w : World) (er : Option Addr) : Option (ByteArray × Int × Int) → Prop
  | none => er = none
  | some (lim, got, mx) => ∃ q, er = some ⟨q, 0, none⟩ ∧ w.heap[q]? = some (.cells #[.string lim, .string ByteArray.empty, .int .i64 0, .int .i64 0, .int .i64 got, .int .i64 mx] 38 (0, 0))

theorem ErrAt.below {w w' : World} {er : Option Addr} {x : Option (ByteArray × Int × Int)} (h : ErrAt w er x) (hb : Below w.heap.size w w') : ErrAt w' er x := by
  match x, h with
  | none, h => exact h
  | some (lim, got, mx), ⟨q, e, hq⟩ =>
    refine ⟨q, e, ?_⟩
    rw [hb.block q (Array.getElem?_eq_some_iff.1 hq).1]
    exact hq

/-- What take answers. -/
def TU (G lo : Nat) (sv : Value) (R : Out2 → Prop) (w : World) (e : Ending) (w' : World) : Prop :=
  ∃ o ov' er, R o ∧ e = .returned (.tuple #[.int .i64 o.a, .pointer er]) ∧ w'.ownsRow lo 47 2 ov' o.N (brs o.cl o.bd o.N) ∧ NS w' G sv ov' o.m o.b o.d o.k o.f ∧ Below lo w w' ∧ ErrAt w' er o.er

/-- What ZZTakeState answers. -/
def ZS (R : Out2 → Prop) (w : World) (e : Ending) (w' : World) : Prop :=
  ∃ o er tc tb, R o ∧ e = .returned (.tuple #[.int .i64 o.a, .pointer er, .slice tc o.N o.N, .slice tb o.N o.N, .int .i64 o.m, .int .i64 o.b, .int .i64 o.d, .int .i64 o.k, .int .i64 o.f]) ∧
    (tc = none → o.N = 0) ∧ (tb = none → o.N = 0) ∧ Rd w' tc o.N (fun i => .int .u8 (o.cl i)) ∧ Rd w' tb o.N (fun i => .bool (o.bd i)) ∧ ErrAt w' er o.er ∧ Below w.heap.size w w'

set_option maxRecDepth 100000 in
set_option maxHeartbeats 1600000 in
theorem zzTake (sb soff sn sc s e : Nat) (f : Nat → Nat) (ca ba : Option Addr) (N cc bc : Nat) (cl : Nat → Nat) (bd : Nat → Bool) (m b d k mf : Int) (w : World) (R : Out2 → Prop) (hN : N ≤ 4096) (hR : ∀ o, R o → o.N ≤ 8192)
    (hsb : sb < w.heap.size) (h : Has w sb soff sn f) (hc : Rd w ca N (fun i => .int .u8 (cl i))) (hb : Rd w ba N (fun i => .bool (bd i)))
    (ht : ∀ (G : Nat) (wt : World) (ov : Value), w.heap.size ≤ G → Has wt sb soff sn f → NS wt G (.slice (some ⟨sb, soff, none⟩) sn sc) ov m b d k mf → wt.ownsRow w.heap.size 47 2 ov N (brs cl bd N) → (∀ g, ov.ownBlock = some g → g < G) →
      Calls Try.prog 30 #[.pointer (some ⟨G, 0, none⟩), .int .i64 s, .int .i64 e] wt (TU G w.heap.size (.slice (some ⟨sb, soff, none⟩) sn sc) R wt)) :
    Calls Try.prog 18 #[.slice (some ⟨sb, soff, none⟩) sn sc, .slice ca N cc, .slice ba N bc, .int .i64 m, .int .i64 b, .int .i64 d, .int .i64 k, .int .i64 mf, .int .i64 s, .int .i64 e] w (ZS R w) := by
  have hmk := mk_br N (by omega)
  go_enter Try.func18, Try.ntmps18
  go_wp2_with fail
  clear hmk
  go_loopw [30] (fun i wr => ∃ (q : Nat) (zs : List Value), q ≤ N ∧ i = .int .i64 q ∧ wr.ownsRow w.heap.size 47 2 (.slice (some ⟨w.heap.size, 0, none⟩) N N) N (brs cl bd q ++ zs) ∧ Below w.heap.size w wr)
    (fun i _ => N - (intOf i).toNat)
  case atStart =>
    refine ⟨0, (madeCells #[.int .u8 0, .bool false] (N * 2)).toList, by omega, rfl, ?_, (Below.refl _ _).alloc (Nat.le_refl _) _⟩
    exact World.ownsRow_lit w _ N (Nat.le_refl _) (by unfold maxLen; omega) (by simp [madeCells])
  case round =>
    obtain ⟨q, zs, hq, rfl, hown, hbl⟩ := hrel
    have hl := hown.1
    rw [List.length_append, brs_length] at hl
    by_cases hlt : q < N
    · obtain ⟨cb, co, rfl, hcb, hcc⟩ := hc.at_ (by omega)
      obtain ⟨bb, bo, rfl, hbb, hbc⟩ := hb.at_ (by omega)
      have x1 : wr.cell? ⟨cb, co + q, none⟩ = some (.int .u8 (cl q)) := (hbl.cell (p := ⟨cb, co + q, none⟩) hcb).trans (hcc q hlt)
      have x2 : wr.cell? ⟨bb, bo + q, none⟩ = some (.bool (bd q)) := (hbl.cell (p := ⟨bb, bo + q, none⟩) hbb).trans (hbc q hlt)
      have z1 := hown.frozenAt (q * 2)
      have z2 := hown.frozenAt (q * 2 + 1)
      obtain ⟨o1, y1⟩ : ∃ old, wr.cell? ⟨w.heap.size, q * 2, none⟩ = some old := ⟨_, (hown.cellAt (q * 2) (by omega)).trans (List.getElem?_eq_getElem (by rw [List.length_append, brs_length]; omega))⟩
      obtain ⟨o2, y2⟩ : ∃ old, wr.cell? ⟨w.heap.size, q * 2 + 1, none⟩ = some old := ⟨_, (hown.cellAt (q * 2 + 1) (by omega)).trans (List.getElem?_eq_getElem (by rw [List.length_append, brs_length]; omega))⟩
      have H1 := (((hown.stored (q * 2) (.int .u8 (cl q))).1.stored (q * 2 + 1) (.bool (bd q))).1)
      rw [brs_set cl bd q _ _ zs rfl rfl (by omega)] at H1
      have g0 : (0 : Int) ≤ (q : Int) := by omega
      have g1 : (q : Int) < (N : Int) := by omega
      clear hcc hbc hown
      go_wp2_with fail
      go_region
      go_wp2_with fail
      go_roundw
      case rel => exact ⟨q + 1, zs.drop 2, by omega, by go_num, H1, ((hbl.setCell (Nat.le_refl _) _).setCell (Nat.le_refl _) _).drew⟩
      case measure => simp [intOf]; omega
    · have e1 : q = N := by omega
      subst e1
      have hz : zs = [] := List.eq_nil_of_length_eq_zero (by omega)
      subst hz
      rw [List.append_nil] at hown
      clear hc hb
      obtain ⟨wo, rfl⟩ : ∃ x, x = wr := ⟨wr, rfl⟩
      have hns0 : ∀ wt : World, wt = wo.alloc (.cells #[.slice (some ⟨sb, soff, none⟩) sn sc, .slice (some ⟨w.heap.size, 0, none⟩) q q, .int .i64 m, .int .i64 b, .int .i64 d, .int .i64 k, .int .i64 mf] 50) → NS wt wo.heap.size (.slice (some ⟨sb, soff, none⟩) sn sc) (.slice (some ⟨w.heap.size, 0, none⟩) q q) m b d k mf := by
        rintro _ rfl
        exact heap_alloc_new wo _
      have hh : ∀ o : Obj, Has (wo.alloc o) sb soff sn f := fun o => h.below (hbl.alloc hbl.size o) hsb
      have hmk1 := fun n (hn : n ≤ 8192) => run_make_row' (P := Try.prog) 24 5 (.int .u8 0) 1 Try.underlying24 Try.info5 rfl .i64 .i64 n (by omega) (by omega)
      have hmk2 := fun n (hn : n ≤ 8192) => run_make_row' (P := Try.prog) 32 4 (.bool false) 1 Try.underlying32 Try.info4 rfl .i64 .i64 n (by omega) (by omega)
      go_wp2_with fail
      refine (ht wo.heap.size _ _ hbl.size (hh _) (hns0 _ rfl) (hown.alloc _) (fun g hg => by cases hg; exact (hown.lt _ rfl).2)).mono ?_
      rintro e1 w2 ⟨o, ov', er, hRo, rfl, hown2, hns2, hb2, her⟩
      have hb3 : Below w.heap.size w w2 := (hbl.alloc hbl.size _).trans hb2
      clear hb2 hns0 ht hown hh hbl
      have hN2 := hR o hRo
      have hmk3 := hmk1 o.N hN2
      have hmk4 := hmk2 o.N hN2
      clear hmk1 hmk2
      obtain ⟨oa, cap, rfl, hNc, hrd⟩ := open_read hown2
      have c1 := hns2.c1
      generalize wo.heap.size = G at *
      have hGl := hns2.lt
      have hGS : Hid (w.heap.size ≤ w2.heap.size) := hb3.size
      go_wp2_with fail
      clear hmk3 hmk4 c1
      go_loopw [36] (fun i wr => ∃ j : Nat, j ≤ o.N ∧ i = .int .i64 j ∧ wr.rowIs w2.heap.size 5 o.N (fun i => if i < j then .int .u8 (o.cl i) else .int .u8 0) ∧ wr.rowIs (w2.heap.size + 1) 4 o.N (fun i => if i < j then .bool (o.bd i) else .bool false) ∧ Below w2.heap.size w2 wr)
        (fun i _ => o.N - (intOf i).toNat)
      case atStart =>
        refine ⟨0, by omega, rfl, ?_, ?_, ((Below.refl _ _).alloc (Nat.le_refl _) _).alloc (by simp) _⟩
        · exact ((World.rowIs_made w2 (.int .u8 0) o.N 5).alloc _).congr (fun i _ => by simp)
        · have := (World.rowIs_made (w2.alloc (.cells (madeCells #[.int .u8 0] o.N) 5)) (.bool false) o.N 4)
          rw [show (w2.alloc (.cells (madeCells #[.int .u8 0] o.N) 5)).heap.size = w2.heap.size + 1 by simp] at this
          exact this.congr (fun i _ => by simp)
      case round =>
        obtain ⟨j, hj, rfl, hr1, hr2, hbw⟩ := hrel
        have c1 : wr.cell? ⟨G, 1, none⟩ = some (.slice oa o.N cap) := (hbw.cell (p := ⟨G, 1, none⟩) hGl).trans hns2.c1
        by_cases hlt2 : j < o.N
        · obtain ⟨g, rfl, hgl, hgs, hcells⟩ := hrd (by omega)
          have x1 : wr.cell? ⟨g, j * 2, none⟩ = some (.int .u8 (o.cl j)) := (hbw.cell (p := ⟨g, j * 2, none⟩) hgs).trans (hcells j hlt2).1
          have x2 : wr.cell? ⟨g, j * 2 + 1, none⟩ = some (.bool (o.bd j)) := (hbw.cell (p := ⟨g, j * 2 + 1, none⟩) hgs).trans (hcells j hlt2).2
          have f1 := hr1.frozen j
          have f2 := hr2.frozen j
          obtain ⟨o1, y1⟩ : ∃ old, wr.cell? ⟨w2.heap.size, j, none⟩ = some old := ⟨_, hr1.cell hlt2⟩
          obtain ⟨o2, y2⟩ : ∃ old, wr.cell? ⟨w2.heap.size + 1, j, none⟩ = some old := ⟨_, hr2.cell hlt2⟩
          have g0 : (0 : Int) ≤ (j : Int) := by omega
          have g1 : (j : Int) < (o.N : Int) := by omega
          have n1 : ¬ (G = w2.heap.size) := by omega
          have n2 : ¬ (g = w2.heap.size) := by omega
          have HR : Hid (((wr.setCell ⟨w2.heap.size, j, none⟩ (.int .u8 (o.cl j))).setCell ⟨w2.heap.size + 1, j, none⟩ (.bool (o.bd j))).rowIs w2.heap.size 5 o.N (fun i => if i < j + 1 then .int .u8 (o.cl i) else .int .u8 0)) := by
            refine ((hr1.set j (.int .u8 (o.cl j))).setOther (a := ⟨w2.heap.size + 1, j, none⟩) (by simp) _).congr (fun i _ => ?_)
            by_cases e1 : i = j
            · subst e1; simp
            · by_cases e2 : i < j
              · rw [if_neg e1, if_pos e2, if_pos (by omega)]
              · rw [if_neg e1, if_neg e2, if_neg (by omega)]
          have HR2 : Hid (((wr.setCell ⟨w2.heap.size, j, none⟩ (.int .u8 (o.cl j))).setCell ⟨w2.heap.size + 1, j, none⟩ (.bool (o.bd j))).rowIs (w2.heap.size + 1) 4 o.N (fun i => if i < j + 1 then .bool (o.bd i) else .bool false)) := by
            refine ((hr2.setOther (a := ⟨w2.heap.size, j, none⟩) (by simp) (.int .u8 (o.cl j))).set j (.bool (o.bd j))).congr (fun i _ => ?_)
            by_cases e1 : i = j
            · subst e1; simp
            · by_cases e2 : i < j
              · rw [if_neg e1, if_pos e2, if_pos (by omega)]
              · rw [if_neg e1, if_neg e2, if_neg (by omega)]
          have HB : Hid (Below w2.heap.size w2 ((wr.setCell ⟨w2.heap.size, j, none⟩ (.int .u8 (o.cl j))).setCell ⟨w2.heap.size + 1, j, none⟩ (.bool (o.bd j)))) := (hbw.setCell (p := ⟨w2.heap.size, j, none⟩) (Nat.le_refl _) _).setCell (p := ⟨w2.heap.size + 1, j, none⟩) (by simp) _
          clear hcells hr1 hr2 hbw
          go_wp2_with fail
          go_roundw
          case rel => exact ⟨j + 1, by omega, by go_num, HR.out, HR2.out, HB.out⟩
          case measure => simp [intOf]; omega
        · have e1 : j = o.N := by omega
          have hr1' : wr.rowIs w2.heap.size 5 o.N (fun i => .int .u8 (o.cl i)) := hr1.congr (fun i hi => by simp [e1, hi])
          have hr2' : wr.rowIs (w2.heap.size + 1) 4 o.N (fun i => .bool (o.bd i)) := hr2.congr (fun i hi => by simp [e1, hi])
          have cc2 : wr.cell? ⟨G, 2, none⟩ = _ := (hbw.cell (p := ⟨G, 2, none⟩) hGl).trans hns2.c2
          have cc3 : wr.cell? ⟨G, 3, none⟩ = _ := (hbw.cell (p := ⟨G, 3, none⟩) hGl).trans hns2.c3
          have cc4 : wr.cell? ⟨G, 4, none⟩ = _ := (hbw.cell (p := ⟨G, 4, none⟩) hGl).trans hns2.c4
          have cc5 : wr.cell? ⟨G, 5, none⟩ = _ := (hbw.cell (p := ⟨G, 5, none⟩) hGl).trans hns2.c5
          have cc6 : wr.cell? ⟨G, 6, none⟩ = _ := (hbw.cell (p := ⟨G, 6, none⟩) hGl).trans hns2.c6
          clear hr1 hr2 e1
          go_wp2_with fail
          go_quiet (fail)
          go_wp2_with fail
          refine bodyPost_ret (v := .tuple #[.int .i64 o.a, .pointer er, .slice (some ⟨w2.heap.size, 0, none⟩) o.N o.N, .slice (some ⟨w2.heap.size + 1, 0, none⟩) o.N o.N, .int .i64 o.m, .int .i64 o.b, .int .i64 o.d, .int .i64 o.k, .int .i64 o.f]) (by simp [results, Try.results18, go_sem]) rfl ?_
          refine ⟨o, er, _, _, hRo, rfl, (fun e => by cases e), (fun e => by cases e), ⟨fun _ => ⟨_, 0, rfl, hr1'.lt, fun i hi => ?_⟩⟩, ⟨fun _ => ⟨_, 0, rfl, hr2'.lt, fun i hi => ?_⟩⟩, her.below (below_dr hbw nq), hb3.trans (below_dr (hbw.mono hGS.out) nq)⟩
          · simpa using hr1'.cell hi
          · simpa using hr2'.cell hi
end Go.Proofs.Qxb6601609a
