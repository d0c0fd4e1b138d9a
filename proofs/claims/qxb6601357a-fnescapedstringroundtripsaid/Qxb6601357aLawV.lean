/-
  THE WALK OF FnValueEndMatchesGrammar, OVER A SLICE THAT IS READ.
-/
import Derived.Test.Qxb6601357aValueEnd
import Derived.Test.Qxb6601357aMValue
import Derived.Deep.OwnRows
namespace Go.Proofs.Qxb6601357a
open Go.RowKit

theorem Try.info5 : (Try.prog.info? 5).map (fun i => (i.zero, i.size, i.bytes)) = some (some (.int .u8 0), 1, 1) := by kernel_rfl

set_option maxHeartbeats 400000 in
/-- copyBytes. -/
theorem copyBytes_some (b off n c : Nat) (f : Nat → Nat) (w : World) (hn : n ≤ 1048576) (hbl : b < w.heap.size) (h : Has w b off n f) :
    Calls Try.prog 15 #[.slice (some ⟨b, off, none⟩) n c] w fun e w' => e = .returned (.slice (some ⟨w.heap.size, 0, none⟩) n n) ∧ Has w' w.heap.size 0 n f ∧ Below w.heap.size w w' := by
  have hq := fun wx => Lib.run_eql_slice_nil (P := Try.prog) wx 25 5 (some ⟨b, off, none⟩) n c 0 0 Try.underlying25
  simp only [Option.isNone_some] at hq
  have hmk := run_make_row' (P := Try.prog) 25 5 (.int .u8 0) 1 Try.underlying25 Try.info5 rfl .i64 .i64 n (by omega) (by omega)
  go_enter Try.func15, Try.ntmps15
  go_wp2
  go_loopw [4] (fun i wr => ∃ k : Nat, k ≤ n ∧ i = .int .i64 k ∧ wr.rowIs w.heap.size 5 n (fun i => .int .u8 (if i < k then (f i : Int) else 0)) ∧ Below w.heap.size w wr)
    (fun i _ => n - (intOf i).toNat)
  case atStart =>
    refine ⟨0, by omega, rfl, (World.rowIs_made _ _ _ _).congr (fun i _ => by simp), (Below.refl _ _).alloc (Nat.le_refl _) _⟩
  case round =>
    obtain ⟨k, hk, rfl, hrow, hb⟩ := hrel
    by_cases hlt : k < n
    · have hcell : wr.cell? ⟨b, off + k, none⟩ = some (.int .u8 (f k)) := (hb.cell (p := ⟨b, off + k, none⟩) hbl).trans (h.cell k hlt)
      have hfz := hrow.frozen k
      have hcl := hrow.cell hlt
      have R := hrow.set k (.int .u8 (f k))
      have HR : Hid ((wr.setCell ⟨w.heap.size, k, none⟩ (.int .u8 (f k))).rowIs w.heap.size 5 n (fun i => .int .u8 (if i < k + 1 then (f i : Int) else 0))) := by
        refine R.congr (fun j _ => ?_)
        by_cases e1 : j = k
        · subst e1; simp
        · by_cases e2 : j < k
          · rw [if_neg e1, if_pos e2, if_pos (by omega)]
          · rw [if_neg e1, if_neg e2, if_neg (by omega)]
      clear R hq hmk
      go_wp2
      go_roundw
      case rel => exact ⟨k + 1, by omega, by go_num, HR.out, hb.setCell (Nat.le_refl _) _⟩
      case measure => simp [intOf]; omega
    · have e : k = n := by omega
      subst e
      have hrow' : wr.rowIs w.heap.size 5 k (fun i => .int .u8 (f i)) := hrow.congr (fun j hj => by simp [hj])
      clear hrow hq hmk
      go_wp2
      go_ret
      exact ⟨rfl, ⟨fun i hi => by simpa using hrow'.cell hi⟩, hb⟩

theorem bytesV_yes (ao : Option Addr) (n c : Nat) (i : Int) (w : World) (h : n ≤ 1048576) : Calls Try.prog 13 #[.slice ao n c, .int .i64 i] w fun e w' => e = .returned (.bool true) ∧ w' = w := by
  go_enter Try.func13, Try.ntmps13
  go_wp2
  go_ret
  exact ⟨rfl, rfl⟩
theorem bytesV_no (ao : Option Addr) (n c : Nat) (i : Int) (w : World) (h : ¬ n ≤ 1048576) : Calls Try.prog 13 #[.slice ao n c, .int .i64 i] w fun e w' => e = .returned (.bool false) ∧ w' = w := by
  go_enter Try.func13, Try.ntmps13
  go_wp2
  go_ret
  exact ⟨rfl, rfl⟩
theorem bytesK_yes (ao : Option Addr) (n c : Nat) (w : World) (h : n ≤ 1048576) : Calls Try.prog 16 #[.slice ao n c] w fun e w' => e = .returned (.bool true) ∧ w' = w := by
  go_enter Try.func16, Try.ntmps16
  go_wp2
  go_ret
  exact ⟨rfl, rfl⟩
theorem bytesK_no (ao : Option Addr) (n c : Nat) (w : World) (h : ¬ n ≤ 1048576) : Calls Try.prog 16 #[.slice ao n c] w fun e w' => e = .returned (.bool false) ∧ w' = w := by
  go_enter Try.func16, Try.ntmps16
  go_wp2
  go_ret
  exact ⟨rfl, rfl⟩

/-- valueEnd at a value that the grammar takes; a scalar is ended by a delimiter or the end. -/
theorem valueEnd_ok (b off n c : Nat) (f : Nat → Nat) (i r : Nat) (k : Int) (w : World) (hn : n ≤ 1048576) (h : Has w b off n f) (hok : J.OkV f n i r k) (hend : k = 0 ∨ k = 1 ∨ k = 2 → r < n → J.Delim (f r)) :
    Calls Try.prog 24 #[.slice (some ⟨b, off, none⟩) n c, .int .i64 i] w fun e w' => e = .returned (.int .i64 r) ∧ w' = w := by
  have h1 := hok.lt
  have h2 := hok.le
  rcases hok.kind with ⟨_, hq, hs⟩ | ⟨_, hq, hs⟩ | ⟨_, hq, hs⟩ | ⟨hk, hs⟩
  · exact valueEnd_str b off n c f i r w hn h (by omega) hq hs
  · exact valueEnd_br b off n c f i r w hn h (by omega) (.inr hq) hs
  · exact valueEnd_br b off n c f i r w hn h (by omega) (.inl hq) hs
  · refine valueEnd_sc b off n c f i r w hn h h1 h2 hs (hend ?_)
    rcases hk with ⟨rfl, _⟩ | ⟨rfl, _⟩ | ⟨rfl, _⟩
    · exact .inl rfl
    · exact .inr (.inl rfl)
    · exact .inr (.inr rfl)
theorem zzvalueEnd_ok (b off n c : Nat) (f : Nat → Nat) (i r : Nat) (k : Int) (w : World) (hn : n ≤ 1048576) (h : Has w b off n f) (hok : J.OkV f n i r k) (hend : k = 0 ∨ k = 1 ∨ k = 2 → r < n → J.Delim (f r)) :
    Calls Try.prog 10 #[.slice (some ⟨b, off, none⟩) n c, .int .i64 i] w fun e w' => e = .returned (.int .i64 r) ∧ w' = w := by
  go_enter Try.func10, Try.ntmps10
  go_wp2_with (go_at_call 24; refine (valueEnd_ok b off n c f i r k _ hn h hok hend).mono ?_; rintro e w' ⟨rfl, hw'⟩; subst w')
  go_ret
  exact ⟨rfl, rfl⟩

theorem below_dr {B : Nat} {w w' : World} (h : Below B w w') (d : Nat) : Below B w (w'.drewN d) := ⟨h.os, h.tape, h.output, h.size, h.block⟩

/-- The kinds. -/
theorem okv_kind {f : Nat → Nat} {n i r : Nat} {k : Int} (h : J.OkV f n i r k) : k = 0 ∨ k = 1 ∨ k = 2 ∨ k = 3 ∨ k = 4 ∨ k = 5 := by
  rcases h.kind with ⟨rfl, _⟩ | ⟨rfl, _⟩ | ⟨rfl, _⟩ | ⟨⟨rfl, _⟩ | ⟨rfl, _⟩ | ⟨rfl, _⟩, _⟩ <;> omega


set_option maxRecDepth 100000 in
set_option maxHeartbeats 1600000 in
theorem walkV (b off n c : Nat) (f : Nat → Nat) (hf : ∀ i, f i < 256) (i : Int) (w : World) (hn : n ≤ 65536) (hbl : b < w.heap.size) (h : Has w b off n f) (h0 : 0 ≤ i) (h1 : i < n) :
    Calls Try.prog 4 #[.slice (some ⟨b, off, none⟩) n c, .int .i64 i] w fun e w' => e = .returned (.bool true) ∧ Below w.heap.size w w' := by
  obtain ⟨i, rfl⟩ := Int.eq_ofNat_of_zero_le h0
  have hd0 : decide ((i : Int) < 0) = false := decide_eq_false (by omega)
  have hd1 : decide ((n : Int) ≤ (i : Int)) = false := decide_eq_false (by omega)
  go_enter Try.func4, Try.ntmps4
  go_wp2_with (go_at_call 13; refine (bytesV_yes _ _ _ _ _ (by omega)).mono ?_; rintro e w' ⟨rfl, hw'⟩; subst w')
  refine (mValue_all b off n c f hf (by omega) n i w (by omega) (by omega) h).mono ?_
  rintro e w' ⟨⟨d, rfl⟩, ⟨r, k, rfl, hok⟩ | ⟨r, k, rfl⟩⟩
  · have o1 := hok.lt
    have o2 := hok.le
    have hk := okv_kind hok
    have hh := h.drewN d
    have hbl' : b < (w.drewN d).heap.size := hbl
    have hbw : Below w.heap.size w (w.drewN d) := below_dr (Below.refl _ _) d
    by_cases hsc : (k = 0 ∨ k = 1 ∨ k = 2) ∧ r < n
    · obtain ⟨hk3, hrn⟩ := hsc
      have hc1 := h.cell r hrn
      have g0 : (0 : Int) ≤ (r : Int) := by omega
      have g1 : (r : Int) < (n : Int) := by omega
      by_cases hdl : J.Delim (f r)
      · clear hk
        rcases hk3 with rfl | rfl | rfl
        all_goals
          go_wp2_with (first
            | (go_at_call 14; refine (isDelim_yes _ _ hdl).mono ?_; rintro e w' ⟨rfl, hw'⟩; subst w')
            | (go_at_call 15; refine (copyBytes_some b off n c f _ (by omega) hbl' hh).mono ?_; rintro e w2 ⟨rfl, hh2, hb2⟩)
            | (go_at_call 10; refine (zzvalueEnd_ok _ 0 n n f i r _ _ (by omega) hh2 hok (fun _ _ => hdl)).mono ?_; rintro e w' ⟨rfl, hw'⟩; subst w'))
          go_ret
          exact ⟨rfl, hbw.trans hb2⟩
      · clear hk
        rcases hk3 with rfl | rfl | rfl
        all_goals
          go_wp2_with (go_at_call 14; refine (isDelim_no _ _ hdl).mono ?_; rintro e w' ⟨rfl, hw'⟩; subst w')
          go_ret
          exact ⟨rfl, hbw⟩
    · have hend : k = 0 ∨ k = 1 ∨ k = 2 → r < n → J.Delim (f r) := fun e1 e2 => absurd ⟨e1, e2⟩ hsc
      rcases (show k = 3 ∨ k = 4 ∨ k = 5 ∨ ((k = 0 ∨ k = 1 ∨ k = 2) ∧ ¬ r < n) by omega) with rfl | rfl | rfl | ⟨hk3, hrn⟩
      · clear hk hsc
        go_wp2_with (first
            | (go_at_call 15; refine (copyBytes_some b off n c f _ (by omega) hbl' hh).mono ?_; rintro e w2 ⟨rfl, hh2, hb2⟩)
            | (go_at_call 10; refine (zzvalueEnd_ok _ 0 n n f i r _ _ (by omega) hh2 hok hend).mono ?_; rintro e w' ⟨rfl, hw'⟩; subst w'))
        go_ret
        exact ⟨rfl, hbw.trans hb2⟩
      · clear hk hsc
        go_wp2_with (first
            | (go_at_call 15; refine (copyBytes_some b off n c f _ (by omega) hbl' hh).mono ?_; rintro e w2 ⟨rfl, hh2, hb2⟩)
            | (go_at_call 10; refine (zzvalueEnd_ok _ 0 n n f i r _ _ (by omega) hh2 hok hend).mono ?_; rintro e w' ⟨rfl, hw'⟩; subst w'))
        go_ret
        exact ⟨rfl, hbw.trans hb2⟩
      · clear hk hsc
        go_wp2_with (first
            | (go_at_call 15; refine (copyBytes_some b off n c f _ (by omega) hbl' hh).mono ?_; rintro e w2 ⟨rfl, hh2, hb2⟩)
            | (go_at_call 10; refine (zzvalueEnd_ok _ 0 n n f i r _ _ (by omega) hh2 hok hend).mono ?_; rintro e w' ⟨rfl, hw'⟩; subst w'))
        go_ret
        exact ⟨rfl, hbw.trans hb2⟩
      · have hd3 : decide ((r : Int) < (n : Int)) = false := decide_eq_false (by omega)
        clear hk hsc
        rcases hk3 with rfl | rfl | rfl
        all_goals
          have hnr : n ≤ r := by omega
          clear hend hrn
          go_wp2_with (first
            | (go_at_call 15; refine (copyBytes_some b off n c f _ (by omega) hbl' hh).mono ?_; rintro e w2 ⟨rfl, hh2, hb2⟩)
            | (go_at_call 10; refine (zzvalueEnd_ok _ 0 n n f i r _ _ (by omega) hh2 hok (fun _ e => absurd e (by omega))).mono ?_; rintro e w' ⟨rfl, hw'⟩; subst w'))
          go_ret
          exact ⟨rfl, hbw.trans hb2⟩
  · go_wp2_with fail
    go_ret
    exact ⟨rfl, below_dr (Below.refl _ _) d⟩
end Go.Proofs.Qxb6601357a
