/-
  (*writer).bytes: WHAT THE WRITER HOLDS, IN ONE PIECE.
-/
import Derived.Test.Qxb6600090aFlush
namespace Go.Proofs.Qxb6600090a
open Go.RowKit

/-- What is known of the writer behind flush. -/
def Flushed (G M : Nat) (A : Nat → Option Addr) (L : Nat → Nat) (w w1 : World) : Prop :=
  ∃ pv ov, w1.heap[G]? = some (.cells #[pv, ov] 42 (0, 0)) ∧ w1.ownsRow (G + 1) 44 5 pv M (pcs A L L M) ∧ Below G w w1

/-- The pieces' bytes, below the writer. -/
def PRd (w : World) (G M : Nat) (A : Nat → Option Addr) (L : Nat → Nat) (z : Nat → Nat → Int) : Prop :=
  ∀ i, i < M → (A i = none → L i = 0) ∧ (0 < L i → ∃ b off, A i = some ⟨b, off, none⟩ ∧ b < G ∧ ∀ j, j < L i → w.cell? ⟨b, off + j, none⟩ = some (.int .u8 (z i j)))

theorem PRd.below {w w' : World} {G M : Nat} {A : Nat → Option Addr} {L : Nat → Nat} {z : Nat → Nat → Int} (h : PRd w G M A L z) (hb : Below G w w') : PRd w' G M A L z := by
  intro i hi
  refine ⟨(h i hi).1, fun hl => ?_⟩
  obtain ⟨b, off, e, hbG, hc⟩ := (h i hi).2 hl
  exact ⟨b, off, e, hbG, fun j hj => (hb.cell (p := ⟨b, off + j, none⟩) hbG).trans (hc j hj)⟩

theorem bytes_one (G : Nat) (A : Nat → Option Addr) (L : Nat → Nat) (z : Nat → Nat → Int) (w : World) (hp : PRd w G 1 A L z)
    (hfl : Calls Try.prog 27 #[.pointer (some ⟨G, 0, none⟩)] w fun e w1 => e = .returned (.tuple #[]) ∧ Flushed G 1 A L w w1) :
    Calls Try.prog 25 #[.pointer (some ⟨G, 0, none⟩)] w fun e w' => ∃ go gc, e = .returned (.slice go (sumL L 1) gc) ∧ CatAt w' go 1 L z ∧ Below G w w' := by
  have HF := fun (p : Prop) (h : p) => (show Hid p from h)
  have HFL := HF _ hfl
  clear HF hfl
  go_enter Try.func25, Try.ntmps25
  go_wp2_with (go_at_call 27; refine (HFL.out).mono ?_; rintro e w1 ⟨rfl, pv, ov, hbk, hown, hb⟩; obtain ⟨pa, cap, rfl, hr⟩ := row_read hown; obtain ⟨pb, rfl, hpl, hrc⟩ := hr (by omega); have c0 : w1.cell? ⟨G, 0, none⟩ = some (.slice (some ⟨pb, 0, none⟩) 1 cap) := (by { simp [World.cell?, hbk] }); have c1 : w1.cell? ⟨pb, 0, none⟩ = some (.slice (A 0) (L 0) (L 0)) := hrc 0 (by omega) 0 (by omega))
  go_ret
  have e1 : sumL L 1 = L 0 := by simp [sumL]
  refine ⟨A 0, L 0, by rw [e1]; rfl, ?_, hb⟩
  intro hl
  rw [e1] at hl
  obtain ⟨b, off, e, hbG, hc⟩ := (hp.below hb 0 (by omega)).2 hl
  have hG := (Array.getElem?_eq_some_iff.1 hbk).1
  refine ⟨b, off, e, by omega, fun i hi j hj => ?_⟩
  obtain rfl : i = 0 := by omega
  simpa [sumL] using hc j hj

set_option maxRecDepth 100000 in
set_option maxHeartbeats 3200000 in
theorem bytes_many (G M : Nat) (A : Nat → Option Addr) (L : Nat → Nat) (z : Nat → Nat → Int) (w : World) (hM1 : ¬ M = 1) (hM : M ≤ 65537) (hS : sumL L M ≤ 1048576) (hp : PRd w G M A L z)
    (hfl : Calls Try.prog 27 #[.pointer (some ⟨G, 0, none⟩)] w fun e w1 => e = .returned (.tuple #[]) ∧ Flushed G M A L w w1) :
    Calls Try.prog 25 #[.pointer (some ⟨G, 0, none⟩)] w fun e w' => ∃ go gc, e = .returned (.slice go (sumL L M) gc) ∧ CatAt w' go M L z ∧ Below G w w' := by
  have HF := fun (p : Prop) (h : p) => (show Hid p from h)
  have HFL := HF _ hfl
  clear HF hfl
  have hne : ((M : Int) == 1) = false := by simp; omega
  obtain ⟨i0, hi, hz0, hz1, hz2⟩ := info_parts Try.info5
  go_enter Try.func25, Try.ntmps25
  go_wp2_with (go_at_call 27; refine (HFL.out).mono ?_; rintro e w1 ⟨rfl, pv, ov, hbk, hown, hb⟩; obtain ⟨pa, cap, rfl, hr⟩ := row_read hown; have c0 : w1.cell? ⟨G, 0, none⟩ = some (.slice pa M cap) := (by { simp [World.cell?, hbk] }))
  have hG := (Array.getElem?_eq_some_iff.1 hbk).1
  go_loopw [3, 29] (fun s i wr => ∃ k : Nat, k ≤ M ∧ i = .int .i64 k ∧ s = .int .i64 (sumL L k) ∧ Below w1.heap.size w1 wr) (fun _ i _ => M - (intOf i).toNat)
  case atStart => exact ⟨0, by omega, rfl, rfl, Below.refl _ _⟩
  case round =>
    obtain ⟨k, hk, rfl, rfl, hbr⟩ := hrel
    by_cases hlt : k < M
    · obtain ⟨pb, rfl, hpl, hrc⟩ := hr (by omega)
      have hsz := hbr.size
      have hle := sumL_add_le L hlt
      have d0 : wr.cell? ⟨pb, k * 5, none⟩ = some (.slice (A k) (L k) (L k)) := (hbr.cell (p := ⟨pb, k * 5, none⟩) hpl).trans (hrc k hlt 0 (by omega))
      have d1 : wr.cell? ⟨pb, k * 5 + 1, none⟩ = some (.int .i64 0) := (hbr.cell (p := ⟨pb, k * 5 + 1, none⟩) hpl).trans (hrc k hlt 1 (by omega))
      have d2 : wr.cell? ⟨pb, k * 5 + 2, none⟩ = some (.int .i64 0) := (hbr.cell (p := ⟨pb, k * 5 + 2, none⟩) hpl).trans (hrc k hlt 2 (by omega))
      have d3 : wr.cell? ⟨pb, k * 5 + 3, none⟩ = some (.bool false) := (hbr.cell (p := ⟨pb, k * 5 + 3, none⟩) hpl).trans (hrc k hlt 3 (by omega))
      have d4 : wr.cell? ⟨pb, k * 5 + 4, none⟩ = some (.int .i64 0) := (hbr.cell (p := ⟨pb, k * 5 + 4, none⟩) hpl).trans (hrc k hlt 4 (by omega))
      clear hr hrc
      go_wp2_with fail
      go_roundw
      case rel => exact ⟨k + 1, by omega, by go_num, (show Value.int .i64 ((sumL L k : Int) + (L k : Int)) = .int .i64 ((sumL L k + L k : Nat) : Int) by go_num), hbr.alloc hbr.size _⟩
      case measure => simp [intOf]; omega
    · have e : k = M := by omega
      subst e
      obtain ⟨wo, rfl⟩ : ∃ x, x = wr := ⟨wr, rfl⟩
      have hbG := hbr.block G hG
      have hbk2 := hbG.trans hbk
      have c02 : wo.cell? ⟨G, 0, none⟩ = some (.slice pa k cap) := by simp [World.cell?, hbk2]
      have hbs := hbr.size
      clear hbG hlt hk c0
      go_wp2_with (at_make; refine wpList_make_own _ rfl _ _ 27 rfl w1.heap.size 5 i0 (.int .u8 0) 1 Try.underlying27 hi hz0 hz1 _ _ _ (sumL L k) rfl rfl rfl (by rw [hz2]; omega) (by unfold maxLen; omega) hbs ?_; intro w2 hown2 hgrow2; have c03 : w2.cell? ⟨G, 0, none⟩ = some (.slice pa k cap) := (hgrow2.cell c02 (by simp)))
      have hb2 : Below wo.heap.size wo w2 := (Below.refl _ _).grown hgrow2 (Nat.le_refl _) (fun j e => by cases e)
      go_loopw [6, 46] (fun t i wr => ∃ q : Nat, q ≤ k ∧ i = .int .i64 q ∧ t = .slice (some ⟨wo.heap.size, 0, none⟩) (sumL L q) (sumL L k) ∧ wr.ownsRow w1.heap.size 5 1 (.slice (some ⟨wo.heap.size, 0, none⟩) (sumL L q) (sumL L k)) (sumL L q) (catL L z q) ∧ Below wo.heap.size wo wr)
        (fun _ i _ => k - (intOf i).toNat)
      case atStart => exact ⟨0, by omega, rfl, rfl, hown2, hb2⟩
      case round =>
        obtain ⟨q, hq, rfl, rfl, hownq, hbq⟩ := hrel
        by_cases hlt : q < k
        · obtain ⟨pb, rfl, hpl, hrc⟩ := hr (by omega)
          have hsz := hbq.size
          have hle := sumL_add_le L hlt
          have hbq1 : Below w1.heap.size w1 wr := hbr.trans (hbq.mono hbs)
          have d0 : wr.cell? ⟨pb, q * 5, none⟩ = some (.slice (A q) (L q) (L q)) := (hbq1.cell (p := ⟨pb, q * 5, none⟩) hpl).trans (hrc q hlt 0 (by omega))
          have d1 : wr.cell? ⟨pb, q * 5 + 1, none⟩ = some (.int .i64 0) := (hbq1.cell (p := ⟨pb, q * 5 + 1, none⟩) hpl).trans (hrc q hlt 1 (by omega))
          have d2 : wr.cell? ⟨pb, q * 5 + 2, none⟩ = some (.int .i64 0) := (hbq1.cell (p := ⟨pb, q * 5 + 2, none⟩) hpl).trans (hrc q hlt 2 (by omega))
          have d3 : wr.cell? ⟨pb, q * 5 + 3, none⟩ = some (.bool false) := (hbq1.cell (p := ⟨pb, q * 5 + 3, none⟩) hpl).trans (hrc q hlt 3 (by omega))
          have d4 : wr.cell? ⟨pb, q * 5 + 4, none⟩ = some (.int .i64 0) := (hbq1.cell (p := ⟨pb, q * 5 + 4, none⟩) hpl).trans (hrc q hlt 4 (by omega))
          have hpq := (hp.below (hb.trans (hbq1.mono (by omega)))) q hlt
          have htc : ∀ o : Obj, ∀ ad, A q = some ad → ∀ j u, (((List.range (L q)).map fun i => Value.int .u8 (z q i)) : List Value)[j]? = some u → (wr.alloc o).cell? (ad.add j) = some u := by
            intro o ad had j u hu
            have hj : j < L q := by have := (List.getElem?_eq_some_iff.1 hu).1; simpa using this
            obtain ⟨b, off, e1, e2, e3⟩ := hpq.2 (by omega)
            rw [had] at e1
            obtain rfl := Option.some.inj e1
            rw [Addr.add_lit, World.cell?_alloc_past _ _ _ (by omega), e3 j hj]
            simpa [hj] using hu
          have hnil := hpq.1
          clear hr hrc hpq
          go_wp2_with (at_builtin; refine wpList_append_fits_any _ rfl (.tmp 50) (.tmp 52) 27 rfl w1.heap.size 5 i0 1 Try.underlying27 hi hz1 wo.heap.size _ (sumL L k) _ rfl (hownq.alloc _) (A q) (L q) (L q) ((List.range (L q)).map fun i => Value.int .u8 (z q i)) rfl (by simp) (fun e => ⟨hnil e, hnil e⟩) (htc _) (by intro u hu; obtain ⟨_, _, rfl⟩ := List.mem_map.1 hu; rfl) hle ?_; intro w5 hown5 hgrow5)
          have hb5 : Below wo.heap.size wo w5 := (hbq.alloc hbq.size _).grown hgrow5 (by simp; omega) (fun k e => by cases e; exact Nat.le_refl _)
          go_roundw
          case rel => exact ⟨q + 1, by omega, by go_num, rfl, hown5, hb5⟩
          case measure => simp [intOf]; omega
        · have e : q = k := by omega
          subst e
          go_wp2_with fail
          go_ret
          refine ⟨_, _, rfl, ?_, hb.trans ((hbr.trans (hbq.mono hbs)).mono (by omega))⟩
          intro _
          have hgl : wo.heap.size < wr.heap.size := (hownq.lt _ rfl).2
          refine ⟨_, 0, rfl, hgl, fun i hi j hj => ?_⟩
          have hle := sumL_add_le L hi
          rw [Nat.zero_add, hownq.cellAt _ (by omega)]
          exact catL_get L z hi hj
end Go.Proofs.Qxb6600090a
