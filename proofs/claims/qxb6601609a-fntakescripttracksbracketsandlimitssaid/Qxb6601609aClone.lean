/-
  COPIES OF SLICES, AND THE READING OF A SLICE.
-/
import Derived.Test.Qxb6601609aRows
import Derived.WalkKit
import Derived.WalkSpells
import Derived.Deep.OwnRows
import Derived.Deep.QuietTactic
import Derived.BigQuiet
namespace Go.Proofs.Qxb6601609a
open Go.RowKit

theorem Try.info5 : (Try.prog.info? 5).map (fun i => (i.zero, i.size, i.bytes)) = some (some (.int .u8 0), 1, 1) := by kernel_rfl
theorem Try.info4 : (Try.prog.info? 4).map (fun i => (i.zero, i.size, i.bytes)) = some (some (.bool false), 1, 1) := by kernel_rfl
theorem Try.info3 : (Try.prog.info? 3).map (fun i => (i.zero, i.size, i.bytes)) = some (some (.int .i64 0), 1, 8) := by kernel_rfl

/-- A slice that is read: n elements of one cell, element i being 'V i'; where there is one, they lie in a row from 'off' on. -/
structure Rd (w : World) (ao : Option Addr) (n : Nat) (V : Nat → Value) : Prop where
  at_ : 0 < n → ∃ b off, ao = some ⟨b, off, none⟩ ∧ b < w.heap.size ∧ ∀ i, i < n → w.cell? ⟨b, off + i, none⟩ = some (V i)
theorem Rd.size {w w' : World} {ao : Option Addr} {n : Nat} {V : Nat → Value} (h : Rd w ao n V) (hb : Below w.heap.size w w') : Rd w' ao n V := by
  refine ⟨fun hn => ?_⟩
  obtain ⟨b, off, e, hl, hc⟩ := h.at_ hn
  refine ⟨b, off, e, Nat.lt_of_lt_of_le hl hb.size, fun i hi => ?_⟩
  rw [hb.cell (p := ⟨b, off + i, none⟩) hl]
  exact hc i hi
theorem Rd.drewN {w : World} {ao : Option Addr} {n : Nat} {V : Nat → Value} (h : Rd w ao n V) (d : Nat) : Rd (w.drewN d) ao n V := ⟨fun hn => h.at_ hn⟩

theorem cloneB_nil (n c : Nat) (w : World) :
    Calls Try.prog 11 #[.slice none n c] w fun e w' => e = .returned (.slice none 0 0) ∧ w' = w := by
  have hq := fun wx => Lib.run_eql_slice_nil (P := Try.prog) wx 24 5 none n c 0 0 Try.underlying24
  simp only [Option.isNone_none] at hq
  go_enter Try.func11, Try.ntmps11
  go_wp2
  go_ret
  exact ⟨rfl, rfl⟩
set_option maxHeartbeats 400000 in
theorem cloneB_some (x : Addr) (n c : Nat) (z : Nat → Int) (w : World) (hn : n ≤ 1048576) (h : Rd w (some x) n (fun i => .int .u8 (z i))) :
    Calls Try.prog 11 #[.slice (some x) n c] w fun e w' => e = .returned (.slice (some ⟨w.heap.size, 0, none⟩) n n) ∧ w'.rowIs w.heap.size 5 n (fun i => .int .u8 (z i)) ∧ Below w.heap.size w w' := by
  have hq := fun wx => Lib.run_eql_slice_nil (P := Try.prog) wx 24 5 (some x) n c 0 0 Try.underlying24
  simp only [Option.isNone_some] at hq
  have hmk := run_make_row' (P := Try.prog) 24 5 (.int .u8 0) 1 Try.underlying24 Try.info5 rfl .i64 .i64 n (by omega) (by omega)
  go_enter Try.func11, Try.ntmps11
  go_wp2
  go_loopw [4] (fun i wr => ∃ k : Nat, k ≤ n ∧ i = .int .i64 k ∧ wr.rowIs w.heap.size 5 n (fun i => if i < k then .int .u8 (z i) else .int .u8 0) ∧ Below w.heap.size w wr)
    (fun i _ => n - (intOf i).toNat)
  case atStart =>
    refine ⟨0, by omega, rfl, (World.rowIs_made _ _ _ _).congr (fun i _ => by simp), (Below.refl _ _).alloc (Nat.le_refl _) _⟩
  case round =>
    obtain ⟨k, hk, rfl, hrow, hb⟩ := hrel
    by_cases hlt : k < n
    · obtain ⟨b, off, hx, hbl, hc⟩ := h.at_ (by omega)
      obtain rfl := Option.some.inj hx
      have hcell : wr.cell? ⟨b, off + k, none⟩ = some (.int .u8 (z k)) := (hb.cell (p := ⟨b, off + k, none⟩) hbl).trans (hc k hlt)
      have hfz := hrow.frozen k
      obtain ⟨old, hcl⟩ : ∃ old, wr.cell? ⟨w.heap.size, k, none⟩ = some old := ⟨_, hrow.cell hlt⟩
      have R := hrow.set k (.int .u8 (z k))
      have HR : Hid ((wr.setCell ⟨w.heap.size, k, none⟩ (.int .u8 (z k))).rowIs w.heap.size 5 n (fun i => if i < k + 1 then .int .u8 (z i) else .int .u8 0)) := by
        refine R.congr (fun j _ => ?_)
        by_cases e1 : j = k
        · subst e1; simp
        · by_cases e2 : j < k
          · rw [if_neg e1, if_pos e2, if_pos (by omega)]
          · rw [if_neg e1, if_neg e2, if_neg (by omega)]
      clear R hc hq hmk
      go_wp2
      go_roundw
      case rel => exact ⟨k + 1, by omega, by go_num, HR.out, hb.setCell (Nat.le_refl _) _⟩
      case measure => simp [intOf]; omega
    · have e : k = n := by omega
      subst e
      have hrow' : wr.rowIs w.heap.size 5 k (fun i => .int .u8 (z i)) := hrow.congr (fun j hj => by simp [hj])
      clear hrow hq hmk
      go_wp2
      go_ret
      exact ⟨rfl, hrow', hb⟩
theorem cloneB_any (ao : Option Addr) (n c : Nat) (z : Nat → Int) (w : World) (hn : n ≤ 1048576) (h0 : ao = none → n = 0) (h : Rd w ao n (fun i => .int .u8 (z i))) :
    Calls Try.prog 11 #[.slice ao n c] w fun e w' => ∃ tq, e = .returned (.slice tq n n) ∧ (tq = none → n = 0) ∧ Rd w' tq n (fun i => .int .u8 (z i)) ∧ Below w.heap.size w w' := by
  cases ao with
  | none =>
    obtain rfl := h0 rfl
    refine (cloneB_nil 0 c w).mono ?_
    rintro e w' ⟨rfl, rfl⟩
    exact ⟨none, rfl, fun _ => rfl, h, Below.refl _ _⟩
  | some x =>
    refine (cloneB_some x n c z w hn h).mono ?_
    rintro e w' ⟨rfl, hrow, hb⟩
    refine ⟨_, rfl, (fun e => by cases e), ⟨fun _ => ⟨_, 0, rfl, hrow.lt, fun i hi => ?_⟩⟩, hb⟩
    simpa using hrow.cell hi

theorem cloneL_nil (n c : Nat) (w : World) :
    Calls Try.prog 22 #[.slice none n c] w fun e w' => e = .returned (.slice none 0 0) ∧ w' = w := by
  have hq := fun wx => Lib.run_eql_slice_nil (P := Try.prog) wx 32 4 none n c 0 0 Try.underlying32
  simp only [Option.isNone_none] at hq
  go_enter Try.func22, Try.ntmps22
  go_wp2
  go_ret
  exact ⟨rfl, rfl⟩
set_option maxHeartbeats 400000 in
theorem cloneL_some (x : Addr) (n c : Nat) (z : Nat → Bool) (w : World) (hn : n ≤ 1048576) (h : Rd w (some x) n (fun i => .bool (z i))) :
    Calls Try.prog 22 #[.slice (some x) n c] w fun e w' => e = .returned (.slice (some ⟨w.heap.size, 0, none⟩) n n) ∧ w'.rowIs w.heap.size 4 n (fun i => .bool (z i)) ∧ Below w.heap.size w w' := by
  have hq := fun wx => Lib.run_eql_slice_nil (P := Try.prog) wx 32 4 (some x) n c 0 0 Try.underlying32
  simp only [Option.isNone_some] at hq
  have hmk := run_make_row' (P := Try.prog) 32 4 (.bool false) 1 Try.underlying32 Try.info4 rfl .i64 .i64 n (by omega) (by omega)
  go_enter Try.func22, Try.ntmps22
  go_wp2
  go_loopw [4] (fun i wr => ∃ k : Nat, k ≤ n ∧ i = .int .i64 k ∧ wr.rowIs w.heap.size 4 n (fun i => if i < k then .bool (z i) else .bool false) ∧ Below w.heap.size w wr)
    (fun i _ => n - (intOf i).toNat)
  case atStart =>
    refine ⟨0, by omega, rfl, (World.rowIs_made _ _ _ _).congr (fun i _ => by simp), (Below.refl _ _).alloc (Nat.le_refl _) _⟩
  case round =>
    obtain ⟨k, hk, rfl, hrow, hb⟩ := hrel
    by_cases hlt : k < n
    · obtain ⟨b, off, hx, hbl, hc⟩ := h.at_ (by omega)
      obtain rfl := Option.some.inj hx
      have hcell : wr.cell? ⟨b, off + k, none⟩ = some (.bool (z k)) := (hb.cell (p := ⟨b, off + k, none⟩) hbl).trans (hc k hlt)
      have hfz := hrow.frozen k
      obtain ⟨old, hcl⟩ : ∃ old, wr.cell? ⟨w.heap.size, k, none⟩ = some old := ⟨_, hrow.cell hlt⟩
      have R := hrow.set k (.bool (z k))
      have HR : Hid ((wr.setCell ⟨w.heap.size, k, none⟩ (.bool (z k))).rowIs w.heap.size 4 n (fun i => if i < k + 1 then .bool (z i) else .bool false)) := by
        refine R.congr (fun j _ => ?_)
        by_cases e1 : j = k
        · subst e1; simp
        · by_cases e2 : j < k
          · rw [if_neg e1, if_pos e2, if_pos (by omega)]
          · rw [if_neg e1, if_neg e2, if_neg (by omega)]
      clear R hc hq hmk
      go_wp2
      go_roundw
      case rel => exact ⟨k + 1, by omega, by go_num, HR.out, hb.setCell (Nat.le_refl _) _⟩
      case measure => simp [intOf]; omega
    · have e : k = n := by omega
      subst e
      have hrow' : wr.rowIs w.heap.size 4 k (fun i => .bool (z i)) := hrow.congr (fun j hj => by simp [hj])
      clear hrow hq hmk
      go_wp2
      go_ret
      exact ⟨rfl, hrow', hb⟩
theorem cloneL_any (ao : Option Addr) (n c : Nat) (z : Nat → Bool) (w : World) (hn : n ≤ 1048576) (h0 : ao = none → n = 0) (h : Rd w ao n (fun i => .bool (z i))) :
    Calls Try.prog 22 #[.slice ao n c] w fun e w' => ∃ tq, e = .returned (.slice tq n n) ∧ (tq = none → n = 0) ∧ Rd w' tq n (fun i => .bool (z i)) ∧ Below w.heap.size w w' := by
  cases ao with
  | none =>
    obtain rfl := h0 rfl
    refine (cloneL_nil 0 c w).mono ?_
    rintro e w' ⟨rfl, rfl⟩
    exact ⟨none, rfl, fun _ => rfl, h, Below.refl _ _⟩
  | some x =>
    refine (cloneL_some x n c z w hn h).mono ?_
    rintro e w' ⟨rfl, hrow, hb⟩
    refine ⟨_, rfl, (fun e => by cases e), ⟨fun _ => ⟨_, 0, rfl, hrow.lt, fun i hi => ?_⟩⟩, hb⟩
    simpa using hrow.cell hi

theorem cloneI_nil (n c : Nat) (w : World) :
    Calls Try.prog 16 #[.slice none n c] w fun e w' => e = .returned (.slice none 0 0) ∧ w' = w := by
  have hq := fun wx => Lib.run_eql_slice_nil (P := Try.prog) wx 29 3 none n c 0 0 Try.underlying29
  simp only [Option.isNone_none] at hq
  go_enter Try.func16, Try.ntmps16
  go_wp2
  go_ret
  exact ⟨rfl, rfl⟩
set_option maxHeartbeats 400000 in
theorem cloneI_some (x : Addr) (n c : Nat) (z : Nat → Int) (w : World) (hn : n ≤ 1048576) (h : Rd w (some x) n (fun i => .int .i64 (z i))) :
    Calls Try.prog 16 #[.slice (some x) n c] w fun e w' => e = .returned (.slice (some ⟨w.heap.size, 0, none⟩) n n) ∧ w'.rowIs w.heap.size 3 n (fun i => .int .i64 (z i)) ∧ Below w.heap.size w w' := by
  have hq := fun wx => Lib.run_eql_slice_nil (P := Try.prog) wx 29 3 (some x) n c 0 0 Try.underlying29
  simp only [Option.isNone_some] at hq
  have hmk := run_make_row' (P := Try.prog) 29 3 (.int .i64 0) 8 Try.underlying29 Try.info3 rfl .i64 .i64 n (by omega) (by omega)
  go_enter Try.func16, Try.ntmps16
  go_wp2
  go_loopw [4] (fun i wr => ∃ k : Nat, k ≤ n ∧ i = .int .i64 k ∧ wr.rowIs w.heap.size 3 n (fun i => if i < k then .int .i64 (z i) else .int .i64 0) ∧ Below w.heap.size w wr)
    (fun i _ => n - (intOf i).toNat)
  case atStart =>
    refine ⟨0, by omega, rfl, (World.rowIs_made _ _ _ _).congr (fun i _ => by simp), (Below.refl _ _).alloc (Nat.le_refl _) _⟩
  case round =>
    obtain ⟨k, hk, rfl, hrow, hb⟩ := hrel
    by_cases hlt : k < n
    · obtain ⟨b, off, hx, hbl, hc⟩ := h.at_ (by omega)
      obtain rfl := Option.some.inj hx
      have hcell : wr.cell? ⟨b, off + k, none⟩ = some (.int .i64 (z k)) := (hb.cell (p := ⟨b, off + k, none⟩) hbl).trans (hc k hlt)
      have hfz := hrow.frozen k
      obtain ⟨old, hcl⟩ : ∃ old, wr.cell? ⟨w.heap.size, k, none⟩ = some old := ⟨_, hrow.cell hlt⟩
      have R := hrow.set k (.int .i64 (z k))
      have HR : Hid ((wr.setCell ⟨w.heap.size, k, none⟩ (.int .i64 (z k))).rowIs w.heap.size 3 n (fun i => if i < k + 1 then .int .i64 (z i) else .int .i64 0)) := by
        refine R.congr (fun j _ => ?_)
        by_cases e1 : j = k
        · subst e1; simp
        · by_cases e2 : j < k
          · rw [if_neg e1, if_pos e2, if_pos (by omega)]
          · rw [if_neg e1, if_neg e2, if_neg (by omega)]
      clear R hc hq hmk
      go_wp2
      go_roundw
      case rel => exact ⟨k + 1, by omega, by go_num, HR.out, hb.setCell (Nat.le_refl _) _⟩
      case measure => simp [intOf]; omega
    · have e : k = n := by omega
      subst e
      have hrow' : wr.rowIs w.heap.size 3 k (fun i => .int .i64 (z i)) := hrow.congr (fun j hj => by simp [hj])
      clear hrow hq hmk
      go_wp2
      go_ret
      exact ⟨rfl, hrow', hb⟩
theorem cloneI_any (ao : Option Addr) (n c : Nat) (z : Nat → Int) (w : World) (hn : n ≤ 1048576) (h0 : ao = none → n = 0) (h : Rd w ao n (fun i => .int .i64 (z i))) :
    Calls Try.prog 16 #[.slice ao n c] w fun e w' => ∃ tq, e = .returned (.slice tq n n) ∧ (tq = none → n = 0) ∧ Rd w' tq n (fun i => .int .i64 (z i)) ∧ Below w.heap.size w w' := by
  cases ao with
  | none =>
    obtain rfl := h0 rfl
    refine (cloneI_nil 0 c w).mono ?_
    rintro e w' ⟨rfl, rfl⟩
    exact ⟨none, rfl, fun _ => rfl, h, Below.refl _ _⟩
  | some x =>
    refine (cloneI_some x n c z w hn h).mono ?_
    rintro e w' ⟨rfl, hrow, hb⟩
    refine ⟨_, rfl, (fun e => by cases e), ⟨fun _ => ⟨_, 0, rfl, hrow.lt, fun i hi => ?_⟩⟩, hb⟩
    simpa using hrow.cell hi
end Go.Proofs.Qxb6601609a
