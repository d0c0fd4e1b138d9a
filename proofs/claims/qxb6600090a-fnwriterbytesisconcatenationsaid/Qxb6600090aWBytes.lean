/-
  ZZWriterBytes, AND THE BOUND ON THE LENGTHS.
-/
import Derived.Test.Qxb6600090aBytes
namespace Go.Proofs.Qxb6600090a
open Go.RowKit

theorem catAt_empty {w : World} {go : Option Addr} {m : Nat} {L : Nat → Nat} {z : Nat → Nat → Int} (h : CatAt w go m L z) (h0 : L m = 0) : CatAt w go (m + 1) L z := by
  intro hl
  have e : sumL L (m + 1) = sumL L m := by simp [sumL, h0]
  rw [e] at hl
  obtain ⟨b, off, e1, e2, e3⟩ := h hl
  refine ⟨b, off, e1, e2, fun i hi j hj => ?_⟩
  by_cases hm : i = m
  · subst hm; omega
  · exact e3 i (by omega) j hj

theorem wbytes_any (G m : Nat) (pv : Value) (A : Nat → Option Addr) (L : Nat → Nat) (z : Nat → Nat → Int) (w : World) (hm : m ≤ 65536) (hS : sumL L (m + 1) ≤ 1048576) (hp : PRd w G (m + 1) A L z)
    (hwb : w.heap[G]? = some (.cells #[pv, .slice (A m) (L m) (L m)] 42 (0, 0))) (hown : w.ownsRow (G + 1) 44 5 pv m (pcs A L L m)) :
    Calls Try.prog 25 #[.pointer (some ⟨G, 0, none⟩)] w fun e w' => ∃ go gc, e = .returned (.slice go (sumL L (m + 1)) gc) ∧ CatAt w' go (m + 1) L z ∧ Below G w w' := by
  by_cases h0 : L m = 0
  · have e : sumL L (m + 1) = sumL L m := by simp [sumL, h0]
    have hfl : Calls Try.prog 27 #[.pointer (some ⟨G, 0, none⟩)] w fun e w1 => e = .returned (.tuple #[]) ∧ Flushed G m A L w w1 := by
      rw [h0] at hwb
      refine (flush_no G pv (A m) 0 w hwb).mono ?_
      rintro e w' ⟨rfl, rfl⟩
      exact ⟨rfl, pv, _, hwb, hown, Below.refl _ _⟩
    have hp' : PRd w G m A L z := fun i hi => hp i (by omega)
    rw [e]
    by_cases h1 : m = 1
    · subst h1
      refine (bytes_one G A L z w hp' hfl).mono ?_
      rintro e w' ⟨go, gc, rfl, hc, hb⟩
      exact ⟨go, gc, rfl, catAt_empty hc h0, hb⟩
    · refine (bytes_many G m A L z w h1 (by omega) (by omega) hp' hfl).mono ?_
      rintro e w' ⟨go, gc, rfl, hc, hb⟩
      exact ⟨go, gc, rfl, catAt_empty hc h0, hb⟩
  · have hfl : Calls Try.prog 27 #[.pointer (some ⟨G, 0, none⟩)] w fun e w1 => e = .returned (.tuple #[]) ∧ Flushed G (m + 1) A L w w1 := by
      refine (flush_yes G pv (A m) (L m) (L m) m (pcs A L L m) w (by omega) hm hwb hown).mono ?_
      rintro e w' ⟨pv', rfl, h1, h2, h3⟩
      exact ⟨rfl, pv', _, h1, h2, h3⟩
    by_cases h1 : m + 1 = 1
    · have hm0 : m = 0 := by omega
      subst hm0
      exact bytes_one G A L z w hp hfl
    · exact bytes_many G (m + 1) A L z w h1 (by omega) hS hp hfl

theorem zzwbytes_any (G m : Nat) (pv : Value) (A : Nat → Option Addr) (L : Nat → Nat) (z : Nat → Nat → Int) (w : World) (hm : m ≤ 65536) (hS : sumL L (m + 1) ≤ 1048576) (hp : PRd w G (m + 1) A L z)
    (hwb : w.heap[G]? = some (.cells #[pv, .slice (A m) (L m) (L m)] 42 (0, 0))) (hown : w.ownsRow (G + 1) 44 5 pv m (pcs A L L m)) :
    Calls Try.prog 15 #[.pointer (some ⟨G, 0, none⟩)] w fun e w' => ∃ go gc, e = .returned (.slice go (sumL L (m + 1)) gc) ∧ CatAt w' go (m + 1) L z ∧ Below G w w' := by
  go_enter Try.func15, Try.ntmps15
  go_wp2_with (go_at_call 25; refine (wbytes_any G m pv A L z _ hm hS hp hwb hown).mono ?_; rintro e w' ⟨go, gc, rfl, hc, hb⟩)
  go_ret
  exact ⟨go, gc, rfl, hc, hb⟩

/-- What the bound's test says: a bool, nothing turned; where it is true no piece is too long. -/
def BPost (m : Nat) (L : Nat → Nat) (w : World) (e : Ending) (w' : World) : Prop := ∃ b, e = .returned (.bool b) ∧ w' = w ∧ (b = true → ∀ i, i < m → L i ≤ 1048576)

set_option maxHeartbeats 800000 in
theorem bytesW_any (ao : Option Addr) (m c : Nat) (A : Nat → Option Addr) (L C : Nat → Nat) (oo : Option Addr) (on oc : Nat) (w : World) (h : Outer w ao m A L C) :
    Calls Try.prog 12 #[.slice ao m c, .slice oo on oc] w fun e w' => BPost m L w e w' := by
  by_cases hm : m ≤ 1048576
  · go_enter Try.func12, Try.ntmps12
    go_wp2_with fail
    go_loop [5, 6] (fun s i => ∃ k : Nat, k ≤ m ∧ i = .int .i64 k ∧ s = .int .i64 ((m + sumL L k : Nat) : Int) ∧ m + sumL L k ≤ 1048576 ∧ ∀ i, i < k → L i ≤ 1048576) (fun _ i => m - (intOf i).toNat)
    case atStart => exact ⟨0, by omega, rfl, by simp [sumL], by simp [sumL]; omega, fun i hi => absurd hi (by omega)⟩
    case round =>
      obtain ⟨k, hk, rfl, rfl, hs, hall⟩ := hrel
      by_cases hlt : k < m
      · obtain ⟨b, off, rfl, hbl, hc⟩ := h.at_ (by omega)
        have hcell := hc k hlt
        clear hc
        by_cases h1 : L k ≤ 1048576
        · by_cases h2 : m + sumL L k + L k ≤ 1048576
          · go_wp2_with fail
            go_round
            case rel =>
              refine ⟨k + 1, by omega, by go_num, ?_, by simp [sumL]; omega, fun i hi => ?_⟩
              · show _ = Value.int .i64 ((m + (sumL L k + L k) : Nat) : Int)
                go_num
              · by_cases e : i = k
                · subst e; exact h1
                · exact hall i (by omega)
            case measure => simp [intOf]; omega
          · go_wp2_with fail
            go_ret
            exact ⟨_, rfl, rfl, fun h => by cases h⟩
        · go_wp2_with fail
          go_ret
          exact ⟨_, rfl, rfl, fun h => by cases h⟩
      · have e : k = m := by omega
        subst e
        go_wp2_with fail
        all_goals
          go_ret
          exact ⟨_, rfl, rfl, fun _ => hall⟩
  · go_enter Try.func12, Try.ntmps12
    go_wp2_with fail
    go_ret
    exact ⟨_, rfl, rfl, fun h => by cases h⟩
end Go.Proofs.Qxb6600090a
