import Derived.Test.Qxb6601609aScriptLoop
namespace Go.Proofs.Qxb6601609a
open Go.RowKit
set_option linter.unusedVariables false

set_option maxHeartbeats 800000 in
theorem zzB15_yes (a b : Option Addr) (n1 c1 n2 c2 : Nat) (w : World) (h : n1 + n2 ≤ 1048576) :
    Calls Try.prog 15 #[.slice a n1 c1, .slice b n2 c2] w fun e w' => e = .returned (.bool true) ∧ w' = w := by
  go_enter Try.func15, Try.ntmps15
  go_wp2_with fail
  go_ret
  exact ⟨rfl, rfl⟩
set_option maxHeartbeats 800000 in
theorem zzB15_no (a b : Option Addr) (n1 c1 n2 c2 : Nat) (w : World) (h : ¬ n1 + n2 ≤ 1048576) :
    Calls Try.prog 15 #[.slice a n1 c1, .slice b n2 c2] w fun e w' => e = .returned (.bool false) ∧ w' = w := by
  by_cases h1 : n1 ≤ 1048576
  · by_cases h2 : n2 ≤ 1048576
    · go_enter Try.func15, Try.ntmps15
      go_wp2_with fail
      go_ret
      exact ⟨rfl, rfl⟩
    · go_enter Try.func15, Try.ntmps15
      go_wp2_with fail
      go_ret
      exact ⟨rfl, rfl⟩
  · go_enter Try.func15, Try.ntmps15
    go_wp2_with fail
    go_ret
    exact ⟨rfl, rfl⟩

/-- Where token i would start, by the ends as they are given. -/
def pz (z : Nat → Int) : Nat → Int
  | 0 => 0
  | i + 1 => z i

theorem pz_nonneg {z : Nat → Int} {n : Nat} {s : Int} (h : ∀ j, j < n → pz z j < z j ∧ z j ≤ s) : ∀ i, i ≤ n → 0 ≤ pz z i
  | 0, _ => Int.le_refl _
  | i + 1, hi => by
    have h1 := pz_nonneg h i (by omega)
    have h2 := (h i (by omega)).1
    show 0 ≤ z i
    omega
theorem pz_st {z : Nat → Int} {n : Nat} {s : Int} (h : ∀ j, j < n → pz z j < z j ∧ z j ≤ s) : ∀ i, i ≤ n → (st (fun i => (z i).toNat) i : Int) = pz z i
  | 0, _ => rfl
  | i + 1, hi => by
    have h1 := pz_nonneg h (i + 1) hi
    have h2 : 0 ≤ z i := h1
    show (((z i).toNat : Nat) : Int) = z i
    omega
theorem ends_ok {z : Nat → Int} {n s : Nat} (h : ∀ j, j < n → pz z j < z j ∧ z j ≤ s) : ∀ i, i < n → st (fun i => (z i).toNat) i < (fun i => (z i).toNat) i ∧ (fun i => (z i).toNat) i ≤ s := by
  intro i hi
  have h1 := pz_st h i (by omega)
  have h2 := h i hi
  have h3 : (0 : Int) ≤ z i := pz_nonneg h (i + 1) (by omega)
  show st (fun i => (z i).toNat) i < (z i).toNat ∧ (z i).toNat ≤ s
  omega
theorem Rd.congr {w : World} {ao : Option Addr} {n : Nat} {V V' : Nat → Value} (h : Rd w ao n V) (he : ∀ i, i < n → V i = V' i) : Rd w ao n V' := by
  refine ⟨fun hn => ?_⟩
  obtain ⟨b, off, e, hl, hc⟩ := h.at_ hn
  exact ⟨b, off, e, hl, fun i hi => by rw [← he i hi]; exact hc i hi⟩

set_option maxRecDepth 100000 in
set_option maxHeartbeats 3200000 in
theorem script_good (a0 : Option Addr) (n0 c0 : Nat) (a1 : Option Addr) (n1 c1 : Nat) (f : Nat → Nat) (z : Nat → Int) (w : World) (z0 : a0 = none → n0 = 0) (z1 : a1 = none → n1 = 0) (r0 : Rd w a0 n0 (fun i => .int .u8 (f i))) (r1 : Rd w a1 n1 (fun i => .int .i64 (z i))) (hf : ∀ i, f i < 256) (h0 : n0 ≤ 65536) (h1 : n1 ≤ 4096) :
    Calls Try.prog 6 #[.slice a0 n0 c0, .slice a1 n1 c1] w fun e w' => e = .returned (.bool true) ∧ Below w.heap.size w w' := by
  go_enter Try.func6, Try.ntmps6
  go_wp2_with (go_at_call 15; refine (zzB15_yes _ _ _ _ _ _ _ (by omega)).mono ?_; rintro e1 w' ⟨rfl, hw'⟩; subst w')
  go_loopw [5, 6] (fun a i wr => ∃ q : Nat, q ≤ n1 ∧ a = .int .i64 (pz z q) ∧ i = .int .i64 q ∧ wr = w ∧ ∀ j, j < q → pz z j < z j ∧ z j ≤ n0) (fun _ i _ => n1 - (intOf i).toNat)
  case atStart => exact ⟨0, by omega, rfl, rfl, rfl, fun j hj => by omega⟩
  case round =>
    obtain ⟨q, hq, rfl, rfl, hwr, hall⟩ := hrel
    subst wr
    by_cases hlt : q < n1
    · obtain ⟨eb, eo, rfl, hel, hec⟩ := r1.at_ (by omega)
      have x1 : w.cell? ⟨eb, eo + q, none⟩ = some (.int .i64 (z q)) := hec q hlt
      have g0 : (0 : Int) ≤ (q : Int) := by omega
      have g1 : (q : Int) < (n1 : Int) := by omega
      clear hec r0 r1
      by_cases t : z q ≤ pz z q
      · have t1 : decide (z q ≤ pz z q) = true := decide_eq_true t
        clear t hall
        go_wp2_with fail
        go_ret
        exact ⟨rfl, Below.refl _ _⟩
      · have t1 : decide (z q ≤ pz z q) = false := decide_eq_false t
        by_cases t2 : (n0 : Int) < z q
        · have t3 : decide ((n0 : Int) < z q) = true := decide_eq_true t2
          clear t t2 hall
          go_wp2_with fail
          go_ret
          exact ⟨rfl, Below.refl _ _⟩
        · have t3 : decide ((n0 : Int) < z q) = false := decide_eq_false t2
          have HA : Hid (∀ j, j < q + 1 → pz z j < z j ∧ z j ≤ n0) := fun j hj => by
            by_cases e : j = q
            · subst e; omega
            · exact hall j (by omega)
          clear t t2 hall
          go_wp2_with fail
          go_roundw
          case rel => exact ⟨q + 1, by omega, rfl, by go_num, trivial, HA.out⟩
          case measure => simp [intOf]; omega
    · have e1 : q = n1 := by omega
      subst e1
      have HA : Hid (∀ j, j < q → pz z j < z j ∧ z j ≤ n0) := hall
      clear hall
      have HB := cloneB_any a0 n0 c0 (fun i => (f i : Int)) w (by omega) z0 r0
      go_upto_region 15 with (go_at_call 11; refine HB.mono ?_; rintro e1 w1 ⟨tq, rfl, ht0, hr0, hb1⟩)
      have HI := cloneI_any a1 q c1 z w1 (by omega) z1 (r1.size hb1)
      go_cut [1] (fun t wx => ∃ te, t = .slice te q q ∧ Rd wx te q (fun i => .int .i64 (z i)) ∧ Below w1.heap.size w1 wx)
      case first =>
        go_wp2_with (go_at_call 16; refine HI.mono ?_; rintro e1 w2 ⟨te, rfl, hte, hr1, hb2⟩)
        go_meet
        exact ⟨te, rfl, hr1, hb2⟩
      case rest =>
        obtain ⟨te, rfl, hr1, hb2⟩ := hcut
        have hok := ends_ok HA.out
        go_step
        refine script_loop ⟨_, _, _, _, _, _, _, _, rfl⟩ tq te n0 q wc.heap.size w.heap.size f (fun i => (z i).toNat) w wc h0 h1 hf rfl (hb1.trans (hb2.mono hb1.size)) (Nat.le_trans hb1.size hb2.size) ?_ ?_ hok
        · intro hn
          have h2 := hok 0 hn
          obtain ⟨sb, so, e, hl, hc⟩ := (hr0.size hb2).at_ (by have := h2.1; have := h2.2; omega)
          exact ⟨sb, so, e, hl, ⟨hc⟩⟩
        · exact hr1.congr (fun i hi => by
            have h3 : (0 : Int) ≤ z i := pz_nonneg HA.out (i + 1) (by omega)
            show Value.int .i64 (z i) = Value.int .i64 (((z i).toNat : Nat) : Int)
            rw [Int.toNat_of_nonneg h3])

set_option maxRecDepth 100000 in
set_option maxHeartbeats 3200000 in
theorem script_any (a0 : Option Addr) (n0 c0 : Nat) (a1 : Option Addr) (n1 c1 : Nat) (f : Nat → Nat) (z : Nat → Int) (w : World) (z0 : a0 = none → n0 = 0) (z1 : a1 = none → n1 = 0) (r0 : Rd w a0 n0 (fun i => .int .u8 (f i))) (r1 : Rd w a1 n1 (fun i => .int .i64 (z i))) (hf : ∀ i, f i < 256) :
    Calls Try.prog 6 #[.slice a0 n0 c0, .slice a1 n1 c1] w fun e w' => e = .returned (.bool true) ∧ Below w.heap.size w w' := by
  by_cases h0 : n0 ≤ 65536
  · by_cases h1 : n1 ≤ 4096
    · exact script_good a0 n0 c0 a1 n1 c1 f z w z0 z1 r0 r1 hf h0 h1
    · clear r0 r1
      by_cases hs : n0 + n1 ≤ 1048576
      · have HS : Hid (n0 + n1 ≤ 1048576) := hs
        clear hs
        go_enter Try.func6, Try.ntmps6
        go_wp2_with (go_at_call 15; refine (zzB15_yes _ _ _ _ _ _ _ HS.out).mono ?_; rintro e1 w' ⟨rfl, hw'⟩; subst w')
        go_ret
        exact ⟨rfl, Below.refl _ _⟩
      · have HS : Hid (¬ n0 + n1 ≤ 1048576) := hs
        clear hs
        go_enter Try.func6, Try.ntmps6
        go_wp2_with (go_at_call 15; refine (zzB15_no _ _ _ _ _ _ _ HS.out).mono ?_; rintro e1 w' ⟨rfl, hw'⟩; subst w')
        go_ret
        exact ⟨rfl, Below.refl _ _⟩
  · clear r0 r1
    by_cases hs : n0 + n1 ≤ 1048576
    · have HS : Hid (n0 + n1 ≤ 1048576) := hs
      clear hs
      go_enter Try.func6, Try.ntmps6
      go_wp2_with (go_at_call 15; refine (zzB15_yes _ _ _ _ _ _ _ HS.out).mono ?_; rintro e1 w' ⟨rfl, hw'⟩; subst w')
      go_ret
      exact ⟨rfl, Below.refl _ _⟩
    · have HS : Hid (¬ n0 + n1 ≤ 1048576) := hs
      clear hs
      go_enter Try.func6, Try.ntmps6
      go_wp2_with (go_at_call 15; refine (zzB15_no _ _ _ _ _ _ _ HS.out).mono ?_; rintro e1 w' ⟨rfl, hw'⟩; subst w')
      go_ret
      exact ⟨rfl, Below.refl _ _⟩
end Go.Proofs.Qxb6601609a
