/-
  THE WALK OF FnEscapedStringRoundTrip, OVER A SLICE THAT IS READ.
-/
import Derived.Test.Qxb6601357aRound
namespace Go.Proofs.Qxb6601357a
open Go.RowKit

/-- The cells of a list of bytes. -/
def bcells (l : List Nat) : List Value := l.map fun c : Nat => Value.int .u8 (c : Int)
theorem bcells_append (a b : List Nat) : bcells (a ++ b) = bcells a ++ bcells b := by simp [bcells]

theorem text_cells (R : Nat → Nat) (m : Nat) {j : Nat} (h : j < J.pos R m + 1) : (bcells (J.text R m))[j]? = some (.int .u8 (J.tf R m j)) := by
  have hl : j < (J.text R m).length := by rw [J.text_len]; exact h
  simp [bcells, J.tf, List.getD, hl]

/-- The whole text, as it is read. -/
theorem text_has {w : World} {base n : Nat} {v : Value} {R : Nat → Nat} {m : Nat} (hn : n = J.pos R m + 1) (hown : w.ownsRow base 5 1 v n (bcells (J.text R m))) :
    ∃ g cap, v = .slice (some ⟨g, 0, none⟩) n cap ∧ base ≤ g ∧ g < w.heap.size ∧ Has w g 0 n (J.tf R m) := by
  rcases hown.2 with ⟨_, e0⟩ | ⟨g, cap, cur, e, hg, hh, h1, h2, h3, h4⟩
  · omega
  · subst e
    refine ⟨g, cap, rfl, hg, (Array.getElem?_eq_some_iff.1 hh).1, ⟨fun i hi => ?_⟩⟩
    rw [Nat.zero_add, hown.cellAt i (by omega)]
    exact text_cells R m (by omega)

theorem rune_read {w : World} {base m : Nat} {v : Value} {R : Nat → Nat} (hown : w.ownsRow base 21 1 v m (rcells R m)) :
    ∃ ga cap, v = .slice ga m cap ∧ (0 < m → ∃ g, ga = some ⟨g, 0, none⟩ ∧ ∀ i, i < m → w.cell? ⟨g, i, none⟩ = some (.int .i32 (R i))) := by
  have hown' := hown
  rcases hown.2 with ⟨e, e0⟩ | ⟨g, cap, cur, e, hg, hh, h1, h2, h3, h4⟩
  · subst e0; exact ⟨none, 0, e, fun h => absurd h (by omega)⟩
  · subst e
    refine ⟨_, cap, rfl, fun _ => ⟨g, rfl, fun i hi => ?_⟩⟩
    rw [hown'.cellAt i (by omega)]
    simp [rcells, hi]

set_option maxRecDepth 100000 in
set_option maxHeartbeats 3200000 in
theorem walkR (ao : Option Addr) (m c : Nat) (z : Nat → Int) (w : World) (hm : m ≤ 65536) (h0 : ao = none → m = 0) (h : RdR w ao m z) :
    Calls Try.prog 3 #[.slice ao m c] w fun e w' => e = .returned (.bool true) ∧ Below w.heap.size w w' := by
  have hd0 : decide ((65536 : Int) < (m : Int)) = false := decide_eq_false (by omega)
  obtain ⟨i0, hi, hz0, hz1, hz2⟩ := info_parts Try.infoU8
  go_enter Try.func3, Try.ntmps3
  go_wp2_with (go_at_call 6; refine (bytesE_yes _ _ _ _ (by omega)).mono ?_; rintro e w' ⟨rfl, hw'⟩; subst w')
  go_loop [3] (fun t => ∃ k : Nat, k ≤ m ∧ t = .int .i64 k ∧ ∀ q, q < k → 0 ≤ z q ∧ z q ≤ 65535) (fun t => m - (intOf t).toNat)
  case atStart => exact ⟨0, by omega, rfl, fun q hq => absurd hq (by omega)⟩
  case round =>
    obtain ⟨k, hk, rfl, hall⟩ := hrel
    by_cases hlt : k < m
    · obtain ⟨b, off, rfl, hbl, hc⟩ := h.at_ (by omega)
      have hcell := hc k hlt
      have g0 : (0 : Int) ≤ (k : Int) := by omega
      have g1 : (k : Int) < (m : Int) := by omega
      clear hc
      by_cases b0 : z k < 0
      · go_wp2_with fail
        go_ret
        exact ⟨rfl, Below.refl _ _⟩
      · have b0' : decide (z k < 0) = false := decide_eq_false b0
        by_cases b1 : z k ≤ 65535
        · have b1' : decide ((65535 : Int) < z k) = false := decide_eq_false (by omega)
          go_wp2_with fail
          go_round
          case rel =>
            refine ⟨k + 1, by omega, by go_num, fun q hq => ?_⟩
            by_cases e : q = k
            · subst e; omega
            · exact hall q (by omega)
          case measure => simp [intOf]; omega
        · have b1' : decide ((65535 : Int) < z k) = true := decide_eq_true (by omega)
          go_wp2_with fail
          go_ret
          exact ⟨rfl, Below.refl _ _⟩
    · have e : m = k := by omega
      subst e
      clear hlt hk
      obtain ⟨R, hR⟩ : ∃ R : Nat → Nat, ∀ q, q < m → z q = (R q : Int) ∧ R q ≤ 65535 := ⟨fun q => (z q).toNat, fun q hq => by have := hall q hq; show z q = ((z q).toNat : Int) ∧ (z q).toNat ≤ 65535; omega⟩
      clear hall
      have hR5 : ∀ q, q < m → R q ≤ 65535 := fun q hq => (hR q hq).2
      have hpb := J.pos_bound R m
      go_wp2_with (first
        | (go_at_call 7; refine (copyRunes_any ao m c z _ (by omega) h0 h).mono ?_; rintro e w1 ⟨tq, rfl, hr1, hb1⟩)
        | (at_make; refine wpList_make_one _ rfl _ _ 25 rfl w1.heap.size 5 i0 (.int .u8 0) Try.underlying25 hi hz0 hz1 rfl _ _ _ (2 + 6 * m) rfl rfl (by omega) (by omega) (by rw [hz2]; omega) (by unfold maxLen; omega) (Nat.le_refl _) ?_; intro w2 hown2 hgrow2; have hcs := hown2.cellAt 0 (by omega); have hfs := hown2.frozenAt 0; simp only [List.getElem?_cons_zero] at hcs))
      obtain ⟨hown3, hgrow3⟩ := hown2.stored 0 (.int .u8 34)
      have hb3 : Below w1.heap.size w1 (w2.setCell ⟨w1.heap.size, 0, none⟩ (.int .u8 34)) := ((Below.refl _ _).grown hgrow2 (Nat.le_refl _) (fun q e => by cases e)).setCell (Nat.le_refl _) _
      have hown3' : (w2.setCell ⟨w1.heap.size, 0, none⟩ (.int .u8 34)).ownsRow w1.heap.size 5 1 (.slice (some ⟨w1.heap.size, 0, none⟩) 1 (2 + 6 * m)) (J.pos R 0) (bcells (34 :: J.flat R 0)) := hown3
      clear hown2 hgrow2 hcs hfs hown3 hgrow3
      generalize w2.setCell ⟨w1.heap.size, 0, none⟩ (.int .u8 34) = w3 at *
      go_loopw [4, 5] (fun s t wr => ∃ k : Nat, k ≤ m ∧ t = .int .i64 k ∧ wr.ownsRow w1.heap.size 5 1 s (J.pos R k) (bcells (34 :: J.flat R k)) ∧ Below w1.heap.size w1 wr) (fun _ t _ => m - (intOf t).toNat)
      case atStart => exact ⟨0, by omega, rfl, hown3', hb3⟩
      case round =>
        obtain ⟨k, hk, rfl, hown, hbr⟩ := hrel
        have hbs := hbr.size
        by_cases hlt : k < m
        · obtain ⟨b, off, rfl, hbl, hc⟩ := (hr1.size hbr).at_ (by omega)
          have hcell : wr.cell? ⟨b, off + k, none⟩ = some (.int .i32 (R k)) := by rw [hc k hlt, (hR k hlt).1]
          have g0 : (0 : Int) ≤ (k : Int) := by omega
          have g1 : (k : Int) < (m : Int) := by omega
          have hpl := J.pos_le R (show k ≤ m by omega)
          have HPS : Hid (J.pos R (k + 1) = J.pos R k + (J.esc (R k)).length) := J.pos_succ R k
          clear hc
          go_wp2_with (go_at_call 8; refine (zzAppendEscape_any w1.heap.size (J.pos R k) _ (bcells (34 :: J.flat R k)) (R k) _ (by omega) hbs hown (hR5 k hlt)).mono ?_; rintro e w4 ⟨v', rfl, hown4, hb4⟩)
          go_roundw
          case rel => exact ⟨k + 1, by omega, by go_num, by rw [HPS.out]; simpa [J.flat, bcells] using hown4, hbr.trans hb4⟩
          case measure => simp [intOf]; omega
        · have e : m = k := by omega
          subst e
          clear hlt hk hown3' hb3
          go_wp2_with (at_builtin; refine wpList_append_own _ rfl (.tmp 58) (.tmp 59) 25 rfl w1.heap.size 5 i0 (.int .u8 0) 1 1 Try.underlying25 hi hz0 hz1 hz2 rfl (by decide) _ (J.pos R m) (bcells (34 :: J.flat R m)) rfl (hown.alloc _) ⟨wr.heap.size, 0, none⟩ 1 1 [.int .u8 34] rfl rfl (cell_one_new _ _ _) (by simp [Value.oneCell']) (by unfold maxLen; omega) (by omega) (by simp; omega) ?_; intro v' w4 hown4 hgrow4 _)
          have hb4 : Below w1.heap.size w1 w4 := (hbr.alloc hbs _).grown hgrow4 (by simp; omega) (fun q e => (hown.lt q e).1)
          obtain ⟨n, hn⟩ : ∃ n, n = J.pos R m + 1 := ⟨_, rfl⟩
          have hown5 : w4.ownsRow w1.heap.size 5 1 v' n (bcells (J.text R m)) := by rw [hn]; simpa [J.text, bcells] using hown4
          obtain ⟨g, cap, rfl, hgB, hgl, hhas⟩ := text_has hn hown5
          have HN : Hid (n = J.pos R m + 1) := hn
          have hn2 : 2 ≤ n := by have : 1 ≤ J.pos R m := by { unfold J.pos; omega }; omega
          have hnb : n ≤ 1048576 := by omega
          have hprint : ∀ j, j < n → 32 ≤ J.tf R m j ∧ J.tf R m j ≤ 126 := fun j hj => J.tf_print hR5 (by omega)
          have hf := J.tf_lt hR5
          have hq0 := J.tf_zero R m
          have hs : J.strM (J.tf R m) n (n + 1) (0 + 1) = some n := by rw [hn]; exact J.strM_whole R m hR5
          have HQ : Hid (J.tf R m 0 = 34) := hq0
          have HSM : Hid (J.strM (J.tf R m) n (n + 1) (0 + 1) = some n) := hs
          have hok : J.OkV (J.tf R m) n 0 n 3 := J.okv_str (by omega) hq0 (J.strM_ret _ _ _ hs)
          have hrw4 := hr1.size hb4
          have hb04 : Below w.heap.size w w4 := hb1.trans (hb4.mono hb1.size)
          clear hown hown4 hgrow4 hown5 hbr hbs hn hq0 hs hb4 hr1 hb1 hgB
          go_loop [6] (fun t => ∃ k : Nat, k ≤ n ∧ t = .int .i64 k) (fun t => n - (intOf t).toNat)
          case atStart => exact ⟨0, by omega, rfl⟩
          case round =>
            obtain ⟨k, hk, rfl⟩ := hrel
            by_cases hlt : k < n
            · have hcell : w4.cell? ⟨g, k, none⟩ = some (.int .u8 (J.tf R m k)) := by simpa using hhas.cell k hlt
              have hpk := hprint k hlt
              have g0 : (0 : Int) ≤ (k : Int) := by omega
              have g1 : (k : Int) < (n : Int) := by omega
              have b0 : decide ((J.tf R m k : Int) < 32) = false := decide_eq_false (by omega)
              have b1 : decide ((126 : Int) < (J.tf R m k : Int)) = false := decide_eq_false (by omega)
              go_wp2_with fail
              go_round
              case rel => exact ⟨k + 1, by omega, by go_num⟩
              case measure => simp [intOf]; omega
            · have e : n = k := by omega
              subst e
              clear hlt hk hprint
              go_wp2_with (first
                | (go_at_call 9; refine (mValue_quote g 0 n cap (J.tf R m) hf n _ hnb (by omega) hhas HQ.out HSM.out).mono ?_; rintro e w' ⟨rfl, hw'⟩; subst w')
                | (go_at_call 10; refine (zzvalueEnd0 g 0 n cap (J.tf R m) n 3 _ hnb hhas hok (by omega)).mono ?_; rintro e w' ⟨rfl, hw'⟩; subst w')
                | (go_at_call 11; refine (zzkind_ok g 0 n cap (J.tf R m) n 3 _ hnb hhas hok).mono ?_; rintro e w' ⟨rfl, hw'⟩; subst w')
                | (go_at_call 12; refine (decode_any g 0 n cap (J.tf R m) hf m R (J.pos R) w4.heap.size _ hn2 hnb hm hhas hgl (Nat.le_refl _) HQ.out (by rw [HN.out]; exact J.tf_last R m) rfl (by have := HN.out; omega) (fun k hk => ⟨J.escAt_of hk (hR5 k hk), by have := J.pos_le R (show k + 1 ≤ m by omega); have := HN.out; omega⟩) hR5).mono ?_; rintro e w5 ⟨gv, rfl, hown6, hb5⟩; obtain ⟨ga, gcap, rfl, hgr⟩ := rune_read hown6))
              have hrw5 := hrw4.size hb5
              go_loopw [12] (fun t wr => ∃ k d : Nat, k ≤ m ∧ t = .int .i64 k ∧ wr = w5.drewN d) (fun t _ => m - (intOf t).toNat)
              case atStart => exact ⟨0, 0, by omega, rfl, rfl⟩
              case round =>
                obtain ⟨k, d, hk, rfl, rfl⟩ := hrel
                by_cases hlt : k < m
                · obtain ⟨gg, rfl, hgc⟩ := hgr (by omega)
                  obtain ⟨b, off, rfl, hbl, hc⟩ := hrw5.at_ (by omega)
                  have c1 := hgc k hlt
                  have c2 : w5.cell? ⟨b, off + k, none⟩ = some (.int .i32 (R k)) := by rw [hc k hlt, (hR k hlt).1]
                  have g0 : (0 : Int) ≤ (k : Int) := by omega
                  have g1 : (k : Int) < (m : Int) := by omega
                  clear hgc hc
                  go_wp2_with fail
                  go_quiet (fail)
                  go_wp2_with fail
                  go_roundw
                  case rel => exact ⟨k + 1, d + nq, by omega, by go_num, rfl⟩
                  case measure => simp [intOf]; omega
                · go_wp2_with fail
                  go_ret
                  exact ⟨rfl, below_dr (hb04.trans (hb5.mono hb04.size)) _⟩
end Go.Proofs.Qxb6601357a
