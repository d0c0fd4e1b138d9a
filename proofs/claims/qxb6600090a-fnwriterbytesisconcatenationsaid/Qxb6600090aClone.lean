/-
  zzClone: A FRESH COPY OF A []byte. The copy is a row of its own, in one new block.
-/
import Derived.Test.Qxb6600090aRows
import Derived.WalkKit
import Derived.WalkSpells
import Derived.Deep.OwnRows
namespace Go.Proofs.Qxb6600090a
open Go.RowKit

theorem Try.info5 : (Try.prog.info? 5).map (fun i => (i.zero, i.size, i.bytes)) = some (some (.int .u8 0), 1, 1) := by kernel_rfl

/-- A slice of bytes that is read: n bytes, byte i being 'z i'; where there is one, they lie in a row from 'off' on. -/
structure Rd (w : World) (ao : Option Addr) (n : Nat) (z : Nat → Int) : Prop where
  at_ : 0 < n → ∃ b off, ao = some ⟨b, off, none⟩ ∧ b < w.heap.size ∧ ∀ i, i < n → w.cell? ⟨b, off + i, none⟩ = some (.int .u8 (z i))

theorem clone_nil (n c : Nat) (w : World) :
    Calls Try.prog 14 #[.slice none n c] w fun e w' => e = .returned (.slice none 0 0) ∧ w' = w := by
  have hq := fun wx => Lib.run_eql_slice_nil (P := Try.prog) wx 27 5 none n c 0 0 Try.underlying27
  simp only [Option.isNone_none] at hq
  go_enter Try.func14, Try.ntmps14
  go_wp2
  go_ret
  exact ⟨rfl, rfl⟩

set_option maxHeartbeats 400000 in
theorem clone_some (x : Addr) (n c : Nat) (z : Nat → Int) (w : World) (hn : n ≤ 1048576) (h : Rd w (some x) n z) :
    Calls Try.prog 14 #[.slice (some x) n c] w fun e w' => e = .returned (.slice (some ⟨w.heap.size, 0, none⟩) n n) ∧ w'.rowIs w.heap.size 5 n (fun i => .int .u8 (z i)) ∧ Below w.heap.size w w' ∧ w'.heap.size = w.heap.size + 1 := by
  have hq := fun wx => Lib.run_eql_slice_nil (P := Try.prog) wx 27 5 (some x) n c 0 0 Try.underlying27
  simp only [Option.isNone_some] at hq
  have hmk := run_make_row' (P := Try.prog) 27 5 (.int .u8 0) 1 Try.underlying27 Try.info5 rfl .i64 .i64 n (by omega) (by omega)
  go_enter Try.func14, Try.ntmps14
  go_wp2
  go_loopw [4] (fun i wr => ∃ k : Nat, k ≤ n ∧ i = .int .i64 k ∧ wr.rowIs w.heap.size 5 n (fun i => .int .u8 (if i < k then z i else 0)) ∧ Below w.heap.size w wr ∧ wr.heap.size = w.heap.size + 1)
    (fun i _ => n - (intOf i).toNat)
  case atStart =>
    refine ⟨0, by omega, rfl, (World.rowIs_made _ _ _ _).congr (fun i _ => by simp), (Below.refl _ _).alloc (Nat.le_refl _) _, by simp⟩
  case round =>
    obtain ⟨k, hk, rfl, hrow, hb, hsz⟩ := hrel
    by_cases hlt : k < n
    · obtain ⟨b, off, hx, hbl, hc⟩ := h.at_ (by omega)
      obtain rfl := Option.some.inj hx
      have hcell : wr.cell? ⟨b, off + k, none⟩ = some (.int .u8 (z k)) := (hb.cell (p := ⟨b, off + k, none⟩) hbl).trans (hc k hlt)
      have hfz := hrow.frozen k
      have hcl := hrow.cell hlt
      have R := hrow.set k (.int .u8 (z k))
      have HR : Hid ((wr.setCell ⟨w.heap.size, k, none⟩ (.int .u8 (z k))).rowIs w.heap.size 5 n (fun i => .int .u8 (if i < k + 1 then z i else 0))) := by
        refine R.congr (fun j _ => ?_)
        by_cases e1 : j = k
        · subst e1; simp
        · by_cases e2 : j < k
          · rw [if_neg e1, if_pos e2, if_pos (by omega)]
          · rw [if_neg e1, if_neg e2, if_neg (by omega)]
      clear R hc hq hmk
      go_wp2
      go_roundw
      case rel => exact ⟨k + 1, by omega, by go_num, HR.out, hb.setCell (Nat.le_refl _) _, by simpa using hsz⟩
      case measure => simp [intOf]; omega
    · have e : k = n := by omega
      subst e
      have hrow' : wr.rowIs w.heap.size 5 k (fun i => .int .u8 (z i)) := hrow.congr (fun j hj => by simp [hj])
      clear hrow hq hmk
      go_wp2
      go_ret
      exact ⟨rfl, hrow', hb, hsz⟩

/-- zzClone, whatever the slice. -/
theorem clone_any (ao : Option Addr) (n c : Nat) (z : Nat → Int) (w : World) (hn : n ≤ 1048576) (h0 : ao = none → n = 0) (h : Rd w ao n z) :
    Calls Try.prog 14 #[.slice ao n c] w fun e w' => ∃ to, e = .returned (.slice to n n) ∧ (to = none → n = 0) ∧ Rd w' to n z ∧ Below w.heap.size w w' ∧ (∀ x, to = some x → w.heap.size ≤ x.block) := by
  cases ao with
  | none =>
    obtain rfl := h0 rfl
    refine (clone_nil 0 c w).mono ?_
    rintro e w' ⟨rfl, rfl⟩
    exact ⟨none, rfl, fun _ => rfl, h, Below.refl _ _, (fun x hx => by cases hx)⟩
  | some x =>
    refine (clone_some x n c z w hn h).mono ?_
    rintro e w' ⟨rfl, hrow, hb, hsz⟩
    refine ⟨_, rfl, (fun e => by cases e), ⟨fun _ => ⟨_, 0, rfl, by omega, fun i hi => ?_⟩⟩, hb, fun x hx => ?_⟩
    · simpa using hrow.cell hi
    · cases hx; exact Nat.le_refl _
end Go.Proofs.Qxb6600090a
