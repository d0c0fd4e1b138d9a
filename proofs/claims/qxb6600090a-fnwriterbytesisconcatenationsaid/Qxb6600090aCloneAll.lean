/-
  zzCloneAll: A DEEP COPY OF A [][]byte; AND THE READING OF A FAMILY OF SLICES.
-/
import Derived.Test.Qxb6600090aClone
namespace Go.Proofs.Qxb6600090a
open Go.RowKit

theorem Try.info27 : (Try.prog.info? 27).map (fun i => (i.zero, i.size, i.bytes)) = some (some (.slice none 0 0), 1, 24) := by kernel_rfl

theorem Rd.size {w w' : World} {ao : Option Addr} {n : Nat} {z : Nat → Int} (h : Rd w ao n z) (hb : Below w.heap.size w w') : Rd w' ao n z := by
  refine ⟨fun hn => ?_⟩
  obtain ⟨b, off, e, hl, hc⟩ := h.at_ hn
  refine ⟨b, off, e, Nat.lt_of_lt_of_le hl hb.size, fun i hi => ?_⟩
  rw [hb.cell (p := ⟨b, off + i, none⟩) hl]
  exact hc i hi

theorem Rd.setCell {w : World} {ao : Option Addr} {n : Nat} {z : Nat → Int} (h : Rd w ao n z) (g o : Nat) (v : Value) (hg : ∀ x, ao = some x → g ≠ x.block) : Rd (w.setCell ⟨g, o, none⟩ v) ao n z := by
  refine ⟨fun hn => ?_⟩
  obtain ⟨b, off, e, hl, hc⟩ := h.at_ hn
  refine ⟨b, off, e, by simpa using hl, fun i hi => ?_⟩
  rw [← hc i hi]
  exact World.cell?_of_block (Below.heap_setCell _ _ _ _ (fun e' => hg _ e e'.symm))

/-- The first k slices of a family are read; none lies below block 'lo'. -/
def Rds (w : World) (lo : Nat) (A : Nat → Option Addr) (L : Nat → Nat) (z : Nat → Nat → Int) (k : Nat) : Prop :=
  ∀ i, i < k → (A i = none → L i = 0) ∧ Rd w (A i) (L i) (z i) ∧ ∀ x, A i = some x → lo ≤ x.block

theorem Rds.size {w w' : World} {lo : Nat} {A : Nat → Option Addr} {L : Nat → Nat} {z : Nat → Nat → Int} {k : Nat} (h : Rds w lo A L z k) (hb : Below w.heap.size w w') : Rds w' lo A L z k :=
  fun i hi => ⟨(h i hi).1, (h i hi).2.1.size hb, (h i hi).2.2⟩
theorem Rds.setCell {w : World} {lo : Nat} {A : Nat → Option Addr} {L : Nat → Nat} {z : Nat → Nat → Int} {k : Nat} (h : Rds w lo A L z k) (g o : Nat) (v : Value) (hg : g < lo) : Rds (w.setCell ⟨g, o, none⟩ v) lo A L z k :=
  fun i hi => ⟨(h i hi).1, (h i hi).2.1.setCell g o v (fun x hx => by have := (h i hi).2.2 x hx; omega), (h i hi).2.2⟩
theorem Rds.snoc {w : World} {lo : Nat} {A : Nat → Option Addr} {L : Nat → Nat} {z : Nat → Nat → Int} {k : Nat} (h : Rds w lo A L z k) (to : Option Addr) (h0 : to = none → L k = 0) (h1 : Rd w to (L k) (z k)) (h2 : ∀ x, to = some x → lo ≤ x.block) :
    Rds w lo (fun i => if i = k then to else A i) L z (k + 1) := by
  intro i hi
  by_cases e : i = k
  · subst e; simp only [if_true]; exact ⟨h0, h1, h2⟩
  · simp only [e, if_false]; exact h i (by omega)

/-- A [][]byte that is read: m slices, the i-th '.slice (A i) (L i) (C i)'. -/
structure Outer (w : World) (ao : Option Addr) (m : Nat) (A : Nat → Option Addr) (L C : Nat → Nat) : Prop where
  at_ : 0 < m → ∃ b off, ao = some ⟨b, off, none⟩ ∧ b < w.heap.size ∧ ∀ i, i < m → w.cell? ⟨b, off + i, none⟩ = some (.slice (A i) (L i) (C i))

theorem Outer.size {w w' : World} {ao : Option Addr} {m : Nat} {A : Nat → Option Addr} {L C : Nat → Nat} (h : Outer w ao m A L C) (hb : Below w.heap.size w w') : Outer w' ao m A L C := by
  refine ⟨fun hn => ?_⟩
  obtain ⟨b, off, e, hl, hc⟩ := h.at_ hn
  refine ⟨b, off, e, Nat.lt_of_lt_of_le hl hb.size, fun i hi => ?_⟩
  rw [hb.cell (p := ⟨b, off + i, none⟩) hl]
  exact hc i hi

theorem cloneAll_nil (n c : Nat) (w : World) :
    Calls Try.prog 13 #[.slice none n c] w fun e w' => e = .returned (.slice none 0 0) ∧ w' = w := by
  have hq := fun wx => Lib.run_eql_slice_nil (P := Try.prog) wx 26 27 none n c 0 0 Try.underlying26
  simp only [Option.isNone_none] at hq
  go_enter Try.func13, Try.ntmps13
  go_wp2
  go_ret
  exact ⟨rfl, rfl⟩

set_option maxHeartbeats 800000 in
theorem cloneAll_some (x : Addr) (m c : Nat) (A : Nat → Option Addr) (L C : Nat → Nat) (z : Nat → Nat → Int) (w : World) (hm : m ≤ 65536) (hL : ∀ i, i < m → L i ≤ 1048576)
    (h : Outer w (some x) m A L C) (hR : Rds w 0 A L z m) :
    Calls Try.prog 13 #[.slice (some x) m c] w fun e w' => ∃ B, e = .returned (.slice (some ⟨w.heap.size, 0, none⟩) m m) ∧ w'.rowIs w.heap.size 27 m (fun i => .slice (B i) (L i) (L i)) ∧ Rds w' (w.heap.size + 1) B L z m ∧ Below w.heap.size w w' := by
  have hq := fun wx => Lib.run_eql_slice_nil (P := Try.prog) wx 26 27 (some x) m c 0 0 Try.underlying26
  simp only [Option.isNone_some] at hq
  have hmk := run_make_row' (P := Try.prog) 26 27 (.slice none 0 0) 24 Try.underlying26 Try.info27 rfl .i64 .i64 m (by omega) (by omega)
  go_enter Try.func13, Try.ntmps13
  go_wp2_with fail
  go_loopw [4] (fun i wr => ∃ (k : Nat) (B : Nat → Option Addr), k ≤ m ∧ i = .int .i64 k ∧ wr.rowIs w.heap.size 27 m (fun i => if i < k then .slice (B i) (L i) (L i) else .slice none 0 0) ∧ Rds wr (w.heap.size + 1) B L z k ∧ Below w.heap.size w wr)
    (fun i _ => m - (intOf i).toNat)
  case atStart =>
    refine ⟨0, fun _ => none, by omega, rfl, (World.rowIs_made _ _ _ _).congr (fun i _ => by simp), fun i hi => absurd hi (by omega), (Below.refl _ _).alloc (Nat.le_refl _) _⟩
  case round =>
    obtain ⟨k, B, hk, rfl, hrow, hrd, hb⟩ := hrel
    by_cases hlt : k < m
    · obtain ⟨b, off, hx, hbl, hc⟩ := h.at_ (by omega)
      obtain rfl := Option.some.inj hx
      have hcell : wr.cell? ⟨b, off + k, none⟩ = some (.slice (A k) (L k) (C k)) := (hb.cell (p := ⟨b, off + k, none⟩) hbl).trans (hc k hlt)
      have hrk : Rd wr (A k) (L k) (z k) := (hR k hlt).2.1.size hb
      have hg := hrow.lt
      clear hc hmk hq
      go_wp2_with (go_at_call 14; refine (clone_any (A k) (L k) (C k) (z k) wr (hL k hlt) (hR k hlt).1 hrk).mono ?_; rintro e w1 ⟨to, rfl, ht0, ht, hb1, htb⟩; have hrow1 := hrow.of_block (hb1.block _ hg); have hfz := hrow1.frozen k; have hcl := hrow1.cell hlt)
      have R := hrow1.set k (.slice to (L k) (L k))
      go_roundw
      case rel =>
        refine ⟨k + 1, fun i => if i = k then to else B i, by omega, by go_num, R.congr (fun j _ => ?_), ?_, (hb.trans (hb1.mono (by omega))).setCell (Nat.le_refl _) _⟩
        · by_cases e1 : j = k
          · subst e1; simp
          · by_cases e2 : j < k
            · simp only [e1, e2, if_true, if_false]; rw [if_pos (by omega)]
            · simp only [e1, e2, if_false]; rw [if_neg (by omega)]
        · exact ((hrd.size hb1).snoc to ht0 ht (fun x hx => by have := htb x hx; omega)).setCell _ _ _ (by omega)
      case measure => simp [intOf]; omega
    · have e : k = m := by omega
      subst e
      have hrow' : wr.rowIs w.heap.size 27 k (fun i => .slice (B i) (L i) (L i)) := hrow.congr (fun j hj => by simp [hj])
      clear hrow hmk hq
      go_wp2_with fail
      go_ret
      exact ⟨B, rfl, hrow', hrd, hb⟩

/-- zzCloneAll, whatever the slice. -/
theorem cloneAll_any (ao : Option Addr) (m c : Nat) (A : Nat → Option Addr) (L C : Nat → Nat) (z : Nat → Nat → Int) (w : World) (hm : m ≤ 65536) (hL : ∀ i, i < m → L i ≤ 1048576) (h0 : ao = none → m = 0)
    (h : Outer w ao m A L C) (hR : Rds w 0 A L z m) :
    Calls Try.prog 13 #[.slice ao m c] w fun e w' => ∃ to B, e = .returned (.slice to m m) ∧ Outer w' to m B L L ∧ Rds w' w.heap.size B L z m ∧ Below w.heap.size w w' := by
  cases ao with
  | none =>
    obtain rfl := h0 rfl
    refine (cloneAll_nil 0 c w).mono ?_
    rintro e w' ⟨rfl, rfl⟩
    exact ⟨none, A, rfl, ⟨fun h => absurd h (by omega)⟩, fun i hi => absurd hi (by omega), Below.refl _ _⟩
  | some x =>
    refine (cloneAll_some x m c A L C z w hm hL h hR).mono ?_
    rintro e w' ⟨B, rfl, hrow, hrd, hb⟩
    refine ⟨_, B, rfl, ⟨fun _ => ⟨_, 0, rfl, hrow.lt, fun i hi => ?_⟩⟩, fun i hi => ⟨(hrd i hi).1, (hrd i hi).2.1, fun x hx => by have := (hrd i hi).2.2 x hx; omega⟩, hb⟩
    simpa using hrow.cell hi
end Go.Proofs.Qxb6600090a
