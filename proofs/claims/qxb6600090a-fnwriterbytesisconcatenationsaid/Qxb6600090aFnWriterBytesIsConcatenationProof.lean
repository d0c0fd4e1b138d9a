/-
  Rows.FnWriterBytesIsConcatenationSaid PROVED. The frame is the kit's own (howto/template; proof-skeleton.mjs), turned to two parameters, the first a slice of slices.
-/
import Derived.Test.Qxb6600090aRows
import Derived.Test.Qxb6600090aWriterWalk
import Derived.WalkKit
import Derived.ProofKit
import Derived.OpenShut
import Derived.ShutString
import Derived.ChangeOld
import Derived.Below
import Derived.Deep.Matrix
namespace Go.Proofs.Qxb6600090a.fnWriterBytesIsConcatenation
open Go.ChangeShapes Go.WideShapes Go.ChangeAt Go.RowKit Go.Deep
open Go.ChangeMaps (open_string shut_string)
set_option linter.unusedVariables false

theorem own : ownKnob Try.prog.godebug = none := by kernel_rfl
theorem laidOut : laidOutB Try.prog = true := by kernel_rfl

/-- A slice of bytes as it is opened, as a reading. -/
theorem rd_of {w : World} {x : Addr} {len cap : Nat} {zs : List Int} (hl : len ≤ cap) (hz : zs.length = cap) (hcell : ∀ i, i < zs.length → w.cell? (x.add i) = some (.int .u8 (zs.getD i 0))) : Rd w (some x) len (fun i => zs.getD i 0) := by
  refine ⟨fun h => ?_⟩
  obtain ⟨b, off, spot⟩ := x
  have h0 := hcell 0 (by omega)
  have hspot : spot = none := by simpa [Addr.add] using World.cell?_spot h0
  subst hspot
  exact ⟨b, off, rfl, block_lt_of_cell h0, fun i hi => by rw [← add_plain]; exact hcell i (by omega)⟩

theorem outer_of {w : World} {x : Addr} {m cap : Nat} {A : Nat → Option Addr} {L C : Nat → Nat} (hl : m ≤ cap) (hcell : ∀ r, r < cap → w.cell? (x.add r) = some (.slice (A r) (L r) (C r))) : Outer w (some x) m A L C := by
  refine ⟨fun h => ?_⟩
  obtain ⟨b, off, spot⟩ := x
  have h0 := hcell 0 (by omega)
  have hspot : spot = none := by simpa [Addr.add] using World.cell?_spot h0
  subst hspot
  exact ⟨b, off, rfl, block_lt_of_cell h0, fun i hi => by rw [← add_plain]; exact hcell i (by omega)⟩

/-- What the walk is told of the second argument: a slice that is read. -/
structure Arg1 (w : World) (ao : Option Addr) (n c : Nat) : Prop where
  rd : ∃ z, (ao = none → n = 0) ∧ Rd w ao n z

structure Arg0 (w : World) (ao : Option Addr) (m c : Nat) : Prop where
  rd : ∃ A L C z, (ao = none → m = 0) ∧ Outer w ao m A L C ∧ Rds w 0 A L z m

theorem walk (a0 : Option Addr) (m0 c0 : Nat) (a1 : Option Addr) (n1 c1 : Nat) (w : World) (h0 : Arg0 w a0 m0 c0) (h1 : Arg1 w a1 n1 c1) :
    Calls Try.prog 5 #[.slice a0 m0 c0, .slice a1 n1 c1] w fun e w' => e = .returned (.bool true) ∧ Below w.heap.size w w' := by
  obtain ⟨A, L, C, z, e0, hO, hR⟩ := h0.rd
  obtain ⟨zo, e1, hr⟩ := h1.rd
  have k := walkW a0 m0 c0 (fun i => if i = m0 then a1 else A i) (fun i => if i = m0 then n1 else L i) (fun i => if i = m0 then c1 else C i) (fun i => if i = m0 then zo else z i) w e0
    ⟨fun hm => by
      obtain ⟨b, off, e, hl, hc⟩ := hO.at_ hm
      refine ⟨b, off, e, hl, fun i hi => ?_⟩
      have : i ≠ m0 := by omega
      simp only [this, if_false]
      exact hc i hi⟩
    (fun i hi => by
      by_cases e : i = m0
      · subst e; simp only [if_true]; exact ⟨e1, hr, fun _ _ => Nat.zero_le _⟩
      · simp only [e, if_false]; exact hR i (by omega))
  simp only [if_true] at k
  exact k

set_option maxRecDepth 100000 in
theorem lifted (os : Os) (started : os.Started) (H : Type) (enc : TypeId × Value → H) :
    ReturnsInHanded {} Try.checked os 5 .any (Rows.fnWriterBytesIsConcatenationSpec.pre6 enc Try.prog Try.f5 Rows.fnWriterBytesIsConcatenationRow.domain false) (Rows.fnWriterBytesIsConcatenationSpec.post enc Try.prog Try.f5 false true false false) := by
  refine returnsInHanded_of_change (C := Try.checked) own started (by kernel_rfl) Try.func5
    (ChangeSpec.witness6 (enc := enc) (C := Try.checked) false ⟨#[], #[.slice none 0 0, .slice none 0 0], []⟩ 8 (by kernel_rfl) (by kernel_rfl) (by kernel_rfl) (by kernel_rfl)) ?_
  intro W base args ds gs before hval0 hW hcnd _
  have hval : ∀ (j : Nat) t v, Try.f5.params[j]? = some t → args[j]? = some v → Value.okWide Try.prog W .any base t v := hval0
  have hW' := hW
  obtain ⟨p, q, hA0, hV, rfl, hfz, hnd⟩ := hW
  have hA : DataW.TrodAll enc Try.prog W 0 (fun _ => true) true Try.f5.params.toList args.toList ds p := hA0
  rw [Try.params5] at hA hval
  obtain ⟨v0, vs0, d0, ds0, p0, q0, hargs, rfl, rfl, h0, r0⟩ := trodAll_cons hA
  obtain ⟨v1, vs1, d1, ds1, p1, q1, rfl, rfl, rfl, h1, r1⟩ := trodAll_cons r0
  obtain ⟨rfl, rfl, rfl⟩ := trodAll_nil r1
  obtain rfl : args = #[v0, v1] := by cases args; simp_all
  obtain ⟨rfl, rfl⟩ := trodVars_none hV
  obtain ⟨a0, len0, cap0, rfl⟩ := okWide_slice Try.underlying26 (hval 0 26 v0 rfl rfl)
  obtain ⟨a1, len1, cap1, rfl⟩ := okWide_slice Try.underlying27 (hval 1 27 v1 rfl rfl)
  have k0 := h0
  have lt0 : ∀ x ∈ p0, x.block < W.heap.size := by obtain ⟨m, hm⟩ := k0; exact DataW.trod_lt m _ _ _ hm
  have k1 := h1
  have lt1 : ∀ x ∈ p1, x.block < W.heap.size := by obtain ⟨m, hm⟩ := k1; exact DataW.trod_lt m _ _ _ hm
  have w0 : Arg0 W a0 len0 cap0 := by
    obtain ⟨fuel, hf⟩ := h0
    rcases open_int_rows Try.underlying26 Try.underlying27 Try.underlying5 (by kernel_rfl) (by kernel_rfl) hf with ⟨hcs, _⟩ | ⟨a, l, c, A, L, C, Z, hcs, _, hl, hm, _, hr⟩
    · simp [Value.cells] at hcs
      obtain ⟨rfl, rfl, rfl⟩ := hcs
      exact ⟨fun _ => none, fun _ => 0, fun _ => 0, fun _ _ => 0, fun _ => rfl, ⟨fun h => absurd h (by omega)⟩, fun i hi => absurd hi (by omega)⟩
    · simp [Value.cells] at hcs
      obtain ⟨rfl, rfl, rfl⟩ := hcs
      refine ⟨A, L, C, fun r i => (Z r).getD i 0, fun e => (by cases e), outer_of hl (fun r hrr => (hr r hrr).1), fun i hi => ?_⟩
      obtain ⟨_, hLC, _, hZ, _, hnil, hsome⟩ := hr i (by omega)
      refine ⟨fun e => by have := hnil e; omega, ?_, fun _ _ => Nat.zero_le _⟩
      cases hAi : A i with
      | none => exact ⟨fun h => absurd (hnil hAi) (by omega)⟩
      | some x => exact rd_of hLC hZ (fun j hj => (hsome x hAi).2 j (by omega))
  have w1 : Arg1 W a1 len1 cap1 := by
    obtain ⟨fuel, hf⟩ := h1
    rcases open_ints Try.underlying27 Try.underlying5 (by kernel_rfl) hf with ⟨hcs, _⟩ | ⟨x, l, c, zs, hcs, _, hl, hm, hz, _, hcell, hwz⟩
    · simp [Value.cells] at hcs
      obtain ⟨rfl, rfl, rfl⟩ := hcs
      exact ⟨fun _ => 0, fun _ => rfl, ⟨fun h => absurd h (by omega)⟩⟩
    · simp [Value.cells] at hcs
      obtain ⟨rfl, rfl, rfl⟩ := hcs
      exact ⟨fun i => zs.getD i 0, fun e => (by cases e), rd_of hl (by simpa using hz) hcell⟩
  clear hA0 hval0
  refine (walk a0 len0 cap0 a1 len1 cap1 W w0 w1).mono fun e W' ⟨he, bel⟩ => ?_
  subst he
  exact ⟨_, rfl, _, _, _, [], _, [], hW', trodAll_mk1 (shut_bool Try.underlying4 _), (trodAll_cons_mk (Below.trod laidOut (by kernel_rfl) (of_decide_eq_true (by kernel_rfl)) k0 bel lt0) (trodAll_cons_mk (Below.trod laidOut (by kernel_rfl) (of_decide_eq_true (by kernel_rfl)) k1 bel lt1) trodAll_mk0)), rfl, bel.frame _, fun h => by cases h⟩

theorem over : Rows.fnWriterBytesIsConcatenationRow.holds Try.pinned (OpenSpec.ofChange Rows.fnWriterBytesIsConcatenationSpec) :=
  OpenClaim.holds_of_wide 5 Try.f5 rfl rfl rfl rfl rfl rfl rfl ⟨rfl, rfl, rfl, rfl, rfl⟩ rfl rfl rfl rfl rfl (by kernel_rfl) Try.func5 (by kernel_rfl)
    (of_decide_eq_true (by kernel_rfl)) (by unfold Func.isWrapper; first | (rw [if_pos (by decide +kernel)]; kernel_rfl) | (rw [if_neg (by decide +kernel)]; exact ⟨rfl, rfl⟩))
    (fun os started H enc _ => lifted os started H enc)

theorem proved : Rows.FnWriterBytesIsConcatenationSaid := over
#print axioms proved
end Go.Proofs.Qxb6600090a.fnWriterBytesIsConcatenation
