/-
  decodeEscapes: THE READER THAT UNDOES THE ESCAPES.
-/
import Derived.Test.Qxb6601357aLeaves
import Derived.Test.Qxb6601357aEscPlain
import Derived.Maps.AppendAt
namespace Go.Proofs.Qxb6601357a
open Go.RowKit

theorem Try.infoI32 : (Try.prog.info? 21).map (fun i => (i.zero, i.size, i.bytes)) = some (some (.int .i32 0), 1, 4) := by kernel_rfl

/-- The first k characters as cells. -/
def rcells (R : Nat → Nat) (k : Nat) : List Value := (List.range k).map fun i => .int .i32 (R i)
theorem rcells_succ (R : Nat → Nat) (k : Nat) : rcells R (k + 1) = rcells R k ++ [.int .i32 (R k)] := by
  unfold rcells; rw [List.range_succ, List.map_append]; rfl

/-- What the first t of four digits spell. -/
def pre (r t : Nat) : Nat := if t = 0 then 0 else if t = 1 then r / 4096 else if t = 2 then r / 256 else if t = 3 then r / 16 else r
def dg (r t : Nat) : Nat := if t = 0 then r / 4096 else if t = 1 then r / 256 % 16 else if t = 2 then r / 16 % 16 else r % 16
theorem pre_succ {r t : Nat} (_hr : r ≤ 65535) (ht : t < 4) : pre r (t + 1) = pre r t * 16 + dg r t := by
  rcases (show t = 0 ∨ t = 1 ∨ t = 2 ∨ t = 3 by omega) with rfl | rfl | rfl | rfl <;> simp [pre, dg] <;> omega
theorem pre_le {r t : Nat} (hr : r ≤ 65535) : pre r t ≤ 65535 := by unfold pre; repeat (first | split | omega)
theorem dg_lt {r t : Nat} (_hr : r ≤ 65535) : dg r t < 16 := by unfold dg; repeat (first | split | omega)

/-- What decodeEscapes answers. -/
def DE (base m : Nat) (R : Nat → Nat) (w : World) (e : Ending) (w' : World) : Prop :=
  ∃ v, e = .returned (.tuple #[v, .bool true]) ∧ w'.ownsRow base 21 1 v m (rcells R m) ∧ Below base w w'

set_option maxRecDepth 100000 in
set_option maxHeartbeats 3200000 in
theorem decode_any (b off n c : Nat) (f : Nat → Nat) (hf : ∀ i, f i < 256) (m : Nat) (R p : Nat → Nat) (base : Nat) (w : World) (hn2 : 2 ≤ n) (hn : n ≤ 1048576) (hm : m ≤ 65536) (h : Has w b off n f) (hb : b < base) (hbase : base ≤ w.heap.size)
    (hq0 : f 0 = 34) (hq1 : f (n - 1) = 34) (p0 : p 0 = 1) (pm : p m = n - 1) (hp : ∀ k, k < m → J.EscAt f (p k) (R k) (p (k + 1)) ∧ p (k + 1) ≤ n - 1) (hR : ∀ k, k < m → R k ≤ 65535) :
    Calls Try.prog 12 #[.slice (some ⟨b, off, none⟩) n c] w (DE base m R w) := by
  obtain ⟨i0, hi, hz0, hz1, hz2⟩ := info_parts Try.infoI32
  have c0 : w.cell? ⟨b, off, none⟩ = some (.int .u8 34) := by simpa [hq0] using h.cell 0 (by omega)
  have c1 : w.cell? ⟨b, off + (n - 1), none⟩ = some (.int .u8 34) := by simpa [hq1] using h.cell (n - 1) (by omega)
  have g1 : (0 : Int) < (n : Int) := by omega
  have g2 : (0 : Int) ≤ (n : Int) - 1 := by omega
  have g3 : decide ((n : Int) < 2) = false := decide_eq_false (by omega)
  have P0 : Hid (p 0 = 1) := p0
  have PM : Hid (p m = n - 1) := pm
  clear hq0 hq1 p0 pm
  go_enter Try.func12, Try.ntmps12
  go_wp2_with fail
  go_loopw [4, 5] (fun o t wr => ∃ k : Nat, k ≤ m ∧ t = .int .i64 (p k) ∧ p k ≤ n - 1 ∧ k ≤ p k ∧ wr.ownsRow base 21 1 o k (rcells R k) ∧ Below base w wr) (fun _ t _ => n - (intOf t).toNat)
  case atStart => exact ⟨0, by omega, by rw [P0.out]; rfl, by rw [P0.out]; omega, by omega, World.ownsRow_nil _ _ _ _, Below.refl _ _⟩
  case round =>
    obtain ⟨k, hk, rfl, hpk, hkp, hown, hbr⟩ := hrel
    by_cases hlt : k < m
    · obtain ⟨hesc, hpn⟩ := hp k hlt
      have hnx := hesc.next
      have hr := hR k hlt
      have hbs := hbr.size
      obtain ⟨e0, e1⟩ := hesc
      have cj : wr.cell? ⟨b, off + p k, none⟩ = some (.int .u8 (f (p k))) := (hbr.cell (p := ⟨b, off + p k, none⟩) hb).trans (h.cell (p k) (by omega))
      have cj1 : wr.cell? ⟨b, off + (p k + 1), none⟩ = some (.int .u8 (f (p k + 1))) := (hbr.cell (p := ⟨b, off + (p k + 1), none⟩) hb).trans (h.cell (p k + 1) (by omega))
      have y0 : (0 : Int) ≤ (p k : Int) := by omega
      have y1 : (p k : Int) < (n : Int) := by omega
      have y2 : (p k : Int) + 1 < (n : Int) := by omega
      have t0 : ((f (p k) : Int) != 92) = false := by simp; omega
      have t0' : decide ((n : Int) - 1 ≤ (p k : Int) + 1) = false := decide_eq_false (by omega)
      have t7 : decide ((p k : Int) < (n : Int) - 1) = true := decide_eq_true (by omega)
      have hrs := rcells_succ R k
      rcases e1 with ⟨d1, d2, d3⟩ | ⟨d1, d3, x2, x3, x4, x5⟩
      · have t1 : ((f (p k + 1) : Int) == 117) = false := by simp; omega
        have D3 : Hid (p (k + 1) = p k + 2) := d3
        have HS : Hid (rcells R (k + 1) = rcells R k ++ [.int .i32 (R k)]) := hrs
        have D2 : Hid (J.shortU (f (p k + 1)) = (R k : Int)) := d2
        clear d3 hrs d1 e0 d2
        go_wp2_with (first
          | (go_at_call 27; refine (short_any _ _).mono ?_; rintro e w' ⟨rfl, hw'⟩; subst w'; rw [D2.out])
          | (at_builtin; refine wpList_append_own _ rfl (.tmp 90) (.tmp 93) 22 rfl base 21 i0 (.int .i32 0) 1 4 Try.underlying22 hi hz0 hz1 hz2 rfl (by decide) _ k (rcells R k) rfl (hown.alloc _) ⟨wr.heap.size, 0, none⟩ 1 1 [.int .i32 (R k)] rfl rfl (cell_one_new _ _ _) (by simp [Value.oneCell']) (by unfold maxLen; omega) (by omega) (by simp; omega) ?_; intro v' w1 hown1 hgrow1 _))
        have hb1 : Below base w w1 := (hbr.alloc (by omega) _).grown hgrow1 (by simp; omega) (fun q e => (hown.lt q e).1)
        go_roundw
        case rel => exact ⟨k + 1, by omega, (show Value.int .i64 ((p k : Int) + 2) = .int .i64 ((p (k + 1) : Nat) : Int) by rw [D3.out]; go_num), hpn, by have := D3.out; omega, by rw [HS.out]; exact hown1, hb1⟩
        case measure => simp [intOf]; omega
      · have t1 : ((f (p k + 1) : Int) == 117) = true := by simp; omega
        have D3 : Hid (p (k + 1) = p k + 6) := d3
        have HS : Hid (rcells R (k + 1) = rcells R k ++ [.int .i32 (R k)]) := hrs
        have HX : Hid (∀ s, s < 4 → J.hexv (f (p k + 2 + s)) = ((dg (R k) s : Nat) : Int)) := by
          intro s hs
          rcases (show s = 0 ∨ s = 1 ∨ s = 2 ∨ s = 3 by omega) with rfl | rfl | rfl | rfl
          · exact x2
          · exact x3
          · exact x4
          · exact x5
        have g5 : (p k : Int) + 5 < (n : Int) := by omega
        have t5 : decide ((n : Int) - 1 ≤ (p k : Int) + 5) = false := decide_eq_false (by omega)
        have l6 : p k + 6 ≤ n - 1 := by omega
        clear d3 hrs d1 e0 x2 x3 x4 x5
        go_wp2_with fail
        go_loop [7, 8] (fun a t => ∃ s : Nat, s ≤ 4 ∧ t = .int .i64 ((p k + 2 + s : Nat) : Int) ∧ a = .int .i64 ((pre (R k) s : Nat) : Int)) (fun _ t => p k + 6 - (intOf t).toNat)
        case atStart => exact ⟨0, by omega, by go_num, by simp [pre]⟩
        case round =>
          obtain ⟨s, hs4, rfl, rfl⟩ := hrel
          by_cases hs : s < 4
          · have hcx : wr.cell? ⟨b, off + (p k + 2 + s), none⟩ = some (.int .u8 (f (p k + 2 + s))) := (hbr.cell (p := ⟨b, off + (p k + 2 + s), none⟩) hb).trans (h.cell (p k + 2 + s) (by omega))
            have z0 : (0 : Int) ≤ ((p k + 2 + s : Nat) : Int) := by omega
            have z1 : ((p k + 2 + s : Nat) : Int) < (n : Int) := by omega
            have hfb := hf (p k + 2 + s)
            have hx := HX.out s hs
            have HH : Hid (J.hexv (f (p k + 2 + s)) = ((dg (R k) s : Nat) : Int)) := hx
            have hps := pre_succ hr hs
            have HP : Hid (pre (R k) (s + 1) = pre (R k) s * 16 + dg (R k) s) := hps
            have l1 := pre_le (t := s) hr
            have l2 := dg_lt (t := s) hr
            clear hx hps
            go_wp2_with (go_at_call 26; refine (hexVal_any _ _ hfb).mono ?_; rintro e w' ⟨rfl, hw'⟩; subst w'; rw [HH.out])
            go_round
            case rel =>
              have hv : Value.int .i64 ((pre (R k) s : Int) * 16 + (dg (R k) s : Int)) = .int .i64 ((pre (R k) (s + 1) : Nat) : Int) := by rw [HP.out]; go_num
              exact ⟨s + 1, by omega, by go_num, hv⟩
            case measure => simp [intOf]; omega
          · have e4 : s = 4 := by omega
            subst e4
            have epr : pre (R k) 4 = R k := rfl
            rw [epr]
            clear epr
            go_wp2_with (at_builtin; refine wpList_append_own _ rfl (.tmp 79) (.tmp 82) 22 rfl base 21 i0 (.int .i32 0) 1 4 Try.underlying22 hi hz0 hz1 hz2 rfl (by decide) _ k (rcells R k) rfl (hown.alloc _) ⟨wr.heap.size, 0, none⟩ 1 1 [.int .i32 (R k)] rfl rfl (cell_one_new _ _ _) (by simp [Value.oneCell']) (by unfold maxLen; omega) (by omega) (by simp; omega) ?_; intro v' w1 hown1 hgrow1 _)
            have hb1 : Below base w w1 := (hbr.alloc (by omega) _).grown hgrow1 (by simp; omega) (fun q e => (hown.lt q e).1)
            go_roundw
            case rel => exact ⟨k + 1, by omega, (show Value.int .i64 ((p k : Int) + 6) = .int .i64 ((p (k + 1) : Nat) : Int) by rw [D3.out]; go_num), hpn, by have := D3.out; omega, by rw [HS.out]; exact hown1, hb1⟩
            case measure => simp [intOf]; omega
    · have e : k = m := by omega
      subst e
      have hpm := PM.out
      have z : ¬ (p k : Int) < (n : Int) - 1 := by omega
      clear hpm
      go_wp2_with fail
      go_ret2
      exact ⟨_, rfl, hown, hbr⟩
end Go.Proofs.Qxb6601357a
