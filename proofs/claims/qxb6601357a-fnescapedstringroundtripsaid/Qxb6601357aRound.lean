/-
  copyRunes; mValue AT A QUOTE; AND SMALL LAWS FOR THE ROUND TRIP.
-/
import Derived.Test.Qxb6601357aLawK
import Derived.Test.Qxb6601357aEsc
import Derived.Test.Qxb6601357aDecode
namespace Go.Proofs.Qxb6601357a
open Go.RowKit

/-- A slice of characters that is read. -/
structure RdR (w : World) (ao : Option Addr) (m : Nat) (z : Nat → Int) : Prop where
  at_ : 0 < m → ∃ b off, ao = some ⟨b, off, none⟩ ∧ b < w.heap.size ∧ ∀ i, i < m → w.cell? ⟨b, off + i, none⟩ = some (.int .i32 (z i))
theorem RdR.size {w w' : World} {ao : Option Addr} {m : Nat} {z : Nat → Int} (h : RdR w ao m z) (hb : Below w.heap.size w w') : RdR w' ao m z := by
  refine ⟨fun hn => ?_⟩
  obtain ⟨b, off, e, hl, hc⟩ := h.at_ hn
  refine ⟨b, off, e, Nat.lt_of_lt_of_le hl hb.size, fun i hi => ?_⟩
  rw [hb.cell (p := ⟨b, off + i, none⟩) hl]
  exact hc i hi

theorem copyRunes_nil (n c : Nat) (w : World) :
    Calls Try.prog 7 #[.slice none n c] w fun e w' => e = .returned (.slice none 0 0) ∧ w' = w := by
  have hq := fun wx => Lib.run_eql_slice_nil (P := Try.prog) wx 22 21 none n c 0 0 Try.underlying22
  simp only [Option.isNone_none] at hq
  go_enter Try.func7, Try.ntmps7
  go_wp2
  go_ret
  exact ⟨rfl, rfl⟩

set_option maxHeartbeats 400000 in
theorem copyRunes_some (x : Addr) (n c : Nat) (z : Nat → Int) (w : World) (hn : n ≤ 1048576) (h : RdR w (some x) n z) :
    Calls Try.prog 7 #[.slice (some x) n c] w fun e w' => e = .returned (.slice (some ⟨w.heap.size, 0, none⟩) n n) ∧ w'.rowIs w.heap.size 21 n (fun i => .int .i32 (z i)) ∧ Below w.heap.size w w' := by
  have hq := fun wx => Lib.run_eql_slice_nil (P := Try.prog) wx 22 21 (some x) n c 0 0 Try.underlying22
  simp only [Option.isNone_some] at hq
  have hmk := run_make_row' (P := Try.prog) 22 21 (.int .i32 0) 4 Try.underlying22 Try.infoI32 rfl .i64 .i64 n (by omega) (by omega)
  go_enter Try.func7, Try.ntmps7
  go_wp2
  go_loopw [4] (fun i wr => ∃ k : Nat, k ≤ n ∧ i = .int .i64 k ∧ wr.rowIs w.heap.size 21 n (fun i => .int .i32 (if i < k then z i else 0)) ∧ Below w.heap.size w wr)
    (fun i _ => n - (intOf i).toNat)
  case atStart =>
    refine ⟨0, by omega, rfl, (World.rowIs_made _ _ _ _).congr (fun i _ => by simp), (Below.refl _ _).alloc (Nat.le_refl _) _⟩
  case round =>
    obtain ⟨k, hk, rfl, hrow, hb⟩ := hrel
    by_cases hlt : k < n
    · obtain ⟨b, off, hx, hbl, hc⟩ := h.at_ (by omega)
      obtain rfl := Option.some.inj hx
      have hcell : wr.cell? ⟨b, off + k, none⟩ = some (.int .i32 (z k)) := (hb.cell (p := ⟨b, off + k, none⟩) hbl).trans (hc k hlt)
      have hfz := hrow.frozen k
      have hcl := hrow.cell hlt
      have R := hrow.set k (.int .i32 (z k))
      have HR : Hid ((wr.setCell ⟨w.heap.size, k, none⟩ (.int .i32 (z k))).rowIs w.heap.size 21 n (fun i => .int .i32 (if i < k + 1 then z i else 0))) := by
        refine R.congr (fun j _ => ?_)
        by_cases e1 : j = k
        · subst e1; simp
        · by_cases e2 : j < k
          · rw [if_neg e1, if_pos e2, if_pos (by omega)]
          · rw [if_neg e1, if_neg e2, if_neg (by omega)]
      clear R hc hq hmk
      go_wp2
      go_roundw
      case rel => exact ⟨k + 1, by omega, by go_num, HR.out, hb.setCell (Nat.le_refl _) _⟩
      case measure => simp [intOf]; omega
    · have e : k = n := by omega
      subst e
      have hrow' : wr.rowIs w.heap.size 21 k (fun i => .int .i32 (z i)) := hrow.congr (fun j hj => by simp [hj])
      clear hrow hq hmk
      go_wp2
      go_ret
      exact ⟨rfl, hrow', hb⟩

theorem copyRunes_any (ao : Option Addr) (n c : Nat) (z : Nat → Int) (w : World) (hn : n ≤ 1048576) (h0 : ao = none → n = 0) (h : RdR w ao n z) :
    Calls Try.prog 7 #[.slice ao n c] w fun e w' => ∃ tq, e = .returned (.slice tq n n) ∧ RdR w' tq n z ∧ Below w.heap.size w w' := by
  cases ao with
  | none =>
    obtain rfl := h0 rfl
    refine (copyRunes_nil 0 c w).mono ?_
    rintro e w' ⟨rfl, rfl⟩
    exact ⟨none, rfl, h, Below.refl _ _⟩
  | some x =>
    refine (copyRunes_some x n c z w hn h).mono ?_
    rintro e w' ⟨rfl, hrow, hb⟩
    refine ⟨_, rfl, ⟨fun _ => ⟨_, 0, rfl, hrow.lt, fun i hi => ?_⟩⟩, hb⟩
    simpa using hrow.cell hi

/-- 'make([]T, 1, n)': one zero element is owned. -/
theorem wpList_make_one {P : Program} (w : World) {ops : Array Oper} {rest : List Oper} {o : Oper} {a : Act} {Q : Exit → Act → World → Prop}
    (hg : o.guard = none) (l c : Operand) (t : TypeId) (hop : o.op = Op.makeSlice t l c)
    (base : Nat) (e : TypeId) (i : TypeInfo) (z : Value) (h1 : P.underlying t = some (.slice e)) (h2 : P.info? e = some i) (h3 : i.zero = some z) (h4 : i.size = 1) (hz : z.cells = #[z])
    (kl kc : IntKind) (C : Int) (n : Nat) (hl : a.eval l = .int kl 1) (hc : a.eval c = .int kc C) (hC : C = (n : Int)) (b1 : 1 ≤ n) (b2 : i.bytes * n ≤ 281474976710656) (b3 : n ≤ maxLen) (b4 : base ≤ w.heap.size)
    (hK : ∀ w', w'.ownsRow base e 1 (.slice (some ⟨w.heap.size, 0, none⟩) 1 n) 1 [z] → w.grownBy w' none → wpList P ops Q rest (a.put o.dst (.slice (some ⟨w.heap.size, 0, none⟩) 1 n)) w') :
    wpList P ops Q (o :: rest) a w := by
  refine wpList_plain hg fun K hK' => ?_
  subst hC
  have hb' : (i.bytes : Int) * (n : Int) ≤ 281474976710656 := by
    have h : ((i.bytes * n : Nat) : Int) ≤ 281474976710656 := by omega
    rwa [Int.natCast_mul] at h
  have hrun := run_make (P := P) w t e i z h1 h2 h3 kl kc 1 (n : Int) (by omega) (by omega) hb' (by simp only [maxLen] at b3; omega)
  simp only [Int.toNat_natCast, h4, Nat.mul_one, hz] at hrun
  have r1 : (w.alloc (.cells (madeCells #[z] n) e)).ownsRow base e 1 (.slice (some ⟨w.heap.size, 0, none⟩) 1 n) 1 [z] := by
    refine ⟨rfl, .inr ⟨w.heap.size, n, madeCells #[z] n, rfl, b4, heap_alloc_new w _, b1, b3, by simp [size_madeCells], ?_⟩⟩
    rw [toList_madeCells_one]
    obtain ⟨q, rfl⟩ : ∃ q, n = q + 1 := ⟨n - 1, by omega⟩
    simp [List.replicate_succ]
  unfold Oper.wp
  simp [execOp, hop, hl, hc, hrun, Result.andThen]
  exact hK' _ _ (hK _ r1 (World.grownBy_alloc _ _ _))

/-- mValue at a text that opens with a quote. -/
theorem mValue_quote (b off n c : Nat) (f : Nat → Nat) (hf : ∀ i, f i < 256) (r : Nat) (w : World) (hn : n ≤ 1048576) (h0 : 0 < n) (h : Has w b off n f) (hq : f 0 = 34) (hs : J.strM f n (n + 1) (0 + 1) = some r) :
    Calls Try.prog 9 #[.slice (some ⟨b, off, none⟩) n c, .int .i64 0] w fun e w' => e = .returned (.tuple #[.int .i64 r, .int .i64 3, .bool true]) ∧ w' = w := by
  have hd2 : decide ((n : Int) ≤ 0) = false := decide_eq_false (by omega)
  have hc0 : w.cell? ⟨b, off, none⟩ = some (.int .u8 34) := by simpa [hq] using h.cell 0 h0
  have g1 : (0 : Int) < (n : Int) := by omega
  have k := mString_any b off n c f hf 0 w hn h0 h
  rw [show ((0 : Nat) : Int) = (0 : Int) from rfl] at k
  have HK : Hid (Calls Try.prog 18 #[.slice (some ⟨b, off, none⟩) n c, .int .i64 0] w (SM (J.strM f n (n + 1) (0 + 1)) w)) := k
  have HS : Hid (J.strM f n (n + 1) (0 + 1) = some r) := hs
  clear k hs hq
  go_enter Try.func9, Try.ntmps9
  go_wp2_with fail
  refine HK.out.mono ?_
  rintro e w' (⟨r', hr, rfl, hw'⟩ | ⟨hr, _, _⟩)
  · subst w'
    rw [HS.out] at hr
    obtain rfl := Option.some.inj hr
    clear hr
    go_wp2_with fail
    go_ret3
    exact ⟨rfl, rfl⟩
  · rw [HS.out] at hr; cases hr

theorem bytesE_yes (ao : Option Addr) (n c : Nat) (w : World) (h : n ≤ 1048576) : Calls Try.prog 6 #[.slice ao n c] w fun e w' => e = .returned (.bool true) ∧ w' = w := by
  go_enter Try.func6, Try.ntmps6
  go_wp2
  go_ret
  exact ⟨rfl, rfl⟩
theorem bytesE_no (ao : Option Addr) (n c : Nat) (w : World) (h : ¬ n ≤ 1048576) : Calls Try.prog 6 #[.slice ao n c] w fun e w' => e = .returned (.bool false) ∧ w' = w := by
  go_enter Try.func6, Try.ntmps6
  go_wp2
  go_ret
  exact ⟨rfl, rfl⟩
end Go.Proofs.Qxb6601357a
