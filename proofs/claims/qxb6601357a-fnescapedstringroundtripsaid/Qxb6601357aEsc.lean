/-
  appendEscape: THE CODE UNDER TEST.
-/
import Derived.Test.Qxb6601357aRows
import Derived.WalkKit
import Derived.WalkSpells
import Derived.Test.Qxb6601357aEscPlain
import Derived.Lib.AppendStr
import Derived.Maps.AppendAt
import Derived.Laws.BitsAllLaws
import Derived.StillTactics
import Derived.Laws.Pointers
import Derived.Deep.RegionHeld3
import Derived.Deep.RegionLaw
import Derived.Deep.AppendLies
import Derived.Deep.DrawnRows
namespace Go.Proofs.Qxb6601357a
open Go.RowKit
attribute [local go_sem ↓] Go.wp_at_zero Go.wp_at_succ

theorem Try.infoU8 : (Try.prog.info? 5).map (fun i => (i.zero, i.size, i.bytes)) = some (some (.int .u8 0), 1, 1) := by kernel_rfl

/-- What appendEscape answers: some slice that owns what was owned, and the escape. -/
def AE (base n : Nat) (xs : List Value) (l : List Nat) (w : World) (e : Ending) (w' : World) : Prop :=
  ∃ v, e = .returned v ∧ w'.ownsRow base 5 1 v (n + l.length) (xs ++ l.map fun c => .int .u8 (c : Int)) ∧ Below base w w'

theorem own_below {base n : Nat} {v : Value} {xs : List Value} {w w' w0 : World} (hown : w.ownsRow base 5 1 v n xs) (hg : w.grownBy w' v.ownBlock) (hb : Below base w0 w) (hbase : base ≤ w.heap.size) : Below base w0 w' :=
  hb.grown hg hbase (fun k e => (hown.lt k e).1)

theorem news_two (w : World) (a b : Value) (t : TypeId) : ∀ j u, ([a, b] : List Value)[j]? = some u → (w.alloc (.cells #[a, b] t)).cell? ((⟨w.heap.size, 0, none⟩ : Addr).add j) = some u := by
  intro j u hj
  match j, hj with
  | 0, hj => simp at hj; subst hj; simp [Addr.add]
  | 1, hj => simp at hj; subst hj; simp [Addr.add]
  | j + 2, hj => simp at hj

theorem esc_short (base n : Nat) (v : Value) (xs : List Value) (r : Nat) (w : World) (hn : n ≤ 1000000) (hbase : base ≤ w.heap.size) (hown : w.ownsRow base 5 1 v n xs) (hr : r = 34 ∨ r = 92) :
    Calls Try.prog 17 #[v, .int .i32 r] w (AE base n xs (J.esc r) w) := by
  have he : J.esc r = [92, r] := by unfold J.esc; rw [if_pos hr]
  rw [he]
  obtain ⟨i0, hi, hz0, hz1, hz2⟩ := info_parts Try.infoU8
  clear he
  rcases hr with rfl | rfl
  all_goals
    go_enter Try.func17, Try.ntmps17
    go_wp2_with (at_builtin; refine wpList_append_own _ rfl (.tmp 9) (.tmp 12) 25 rfl base 5 i0 (.int .u8 0) 1 1 Try.underlying25 hi hz0 hz1 hz2 rfl (by decide) v n xs rfl (hown.alloc _) ⟨w.heap.size, 0, none⟩ 2 2 [.int .u8 92, .int .u8 _] rfl rfl (news_two _ _ _ _) (by simp [Value.oneCell']) (by unfold maxLen; omega) (by omega) (by simp; omega) ?_; intro v' w1 hown1 hgrow1 _)
    go_ret
    exact ⟨v', rfl, by simpa using hown1, own_below (hown.alloc _) hgrow1 ((Below.refl _ _).alloc hbase _) (by simp; omega)⟩

theorem esc_ctl (base n : Nat) (v : Value) (xs : List Value) (r : Nat) (w : World) (hn : n ≤ 1000000) (hbase : base ≤ w.heap.size) (hown : w.ownsRow base 5 1 v n xs) (hr : r = 8 ∨ r = 12 ∨ r = 10 ∨ r = 13 ∨ r = 9) :
    Calls Try.prog 17 #[v, .int .i32 r] w (AE base n xs (J.esc r) w) := by
  obtain ⟨i0, hi, hz0, hz1, hz2⟩ := info_parts Try.infoU8
  rcases hr with rfl | rfl | rfl | rfl | rfl
  all_goals
    go_enter Try.func17, Try.ntmps17
    go_wp2_with (at_builtin; refine Lib.wpList_append_own_string _ rfl _ _ 25 9 rfl base 5 i0 Try.underlying25 Try.underlying9 hi hz0 hz1 hz2 v n xs rfl hown _ rfl (by show n + 2 ≤ maxLen; unfold maxLen; omega) (by show n + 2 ≤ 140737488355328; omega) hbase ?_; intro v' w1 hown1 hgrow1 _)
    go_ret
    exact ⟨v', rfl, hown1, own_below hown hgrow1 (Below.refl _ _) hbase⟩

def digs : ByteArray := ⟨#[48, 49, 50, 51, 52, 53, 54, 55, 56, 57, 97, 98, 99, 100, 101, 102]⟩

theorem and15 (x : Int) (h0 : 0 ≤ x) (h1 : x < 65536) : bits BinOp.and IntKind.i32 x 15 = x % 16 := by
  obtain ⟨y, rfl⟩ := Int.eq_ofNat_of_zero_le h0
  have e : bits BinOp.and IntKind.i32 (y : Int) 15 = ((y &&& 15 : Nat) : Int) := by
    have hx : y &&& 15 < 2 ^ 4 := Nat.and_lt_two_pow _ (by decide)
    have h1 : (BitVec.ofInt 32 (y : Int)).toNat = y := by
      rw [BitVec.ofInt_natCast, BitVec.toNat_ofNat]; exact Nat.mod_eq_of_lt (by omega)
    have h2 : (BitVec.ofInt 32 (15 : Int)).toNat = 15 := by decide
    show IntKind.i32.wrap ((BitVec.ofInt 32 (y : Int) &&& BitVec.ofInt 32 (15 : Int)).toNat : Int) = _
    rw [BitVec.toNat_and, h1, h2]
    simp [IntKind.wrap, IntKind.bits, IntKind.signed]
    omega
  have l : y &&& 15 = y % 2 ^ 4 := Nat.and_two_pow_sub_one_eq_mod y 4
  rw [e, l]
  omega

theorem idx (d : Nat) (h : d < 16) (w : World) : (Instr.index 9 (.string ⟨#[48, 49, 50, 51, 52, 53, 54, 55, 56, 57, 97, 98, 99, 100, 101, 102]⟩) (.int .i32 (d : Int))).run Try.prog w = .ok (.int .u8 (J.hd d : Nat)) w := by
  rcases (show d = 0 ∨ d = 1 ∨ d = 2 ∨ d = 3 ∨ d = 4 ∨ d = 5 ∨ d = 6 ∨ d = 7 ∨ d = 8 ∨ d = 9 ∨ d = 10 ∨ d = 11 ∨ d = 12 ∨ d = 13 ∨ d = 14 ∨ d = 15 by omega) with rfl | rfl | rfl | rfl | rfl | rfl | rfl | rfl | rfl | rfl | rfl | rfl | rfl | rfl | rfl | rfl
  all_goals kernel_rfl
theorem idxI (x : Int) (d : Nat) (hx : x = (d : Int)) (h : d < 16) (w : World) : (Instr.index 9 (.string ⟨#[48, 49, 50, 51, 52, 53, 54, 55, 56, 57, 97, 98, 99, 100, 101, 102]⟩) (.int .i32 x)).run Try.prog w = .ok (.int .u8 (J.hd d : Nat)) w := by
  subst hx; exact idx d h w

set_option maxRecDepth 100000 in
set_option maxHeartbeats 3200000 in
theorem esc_hex (base n : Nat) (v : Value) (xs : List Value) (r : Nat) (w : World) (hn : n ≤ 1000000) (hbase : base ≤ w.heap.size) (hown : w.ownsRow base 5 1 v n xs) (hr : r ≤ 65535)
    (h1 : r ≠ 34) (h2 : r ≠ 92) (h3 : r ≠ 8) (h4 : r ≠ 12) (h5 : r ≠ 10) (h6 : r ≠ 13) (h7 : r ≠ 9) :
    Calls Try.prog 17 #[v, .int .i32 r] w (AE base n xs (J.esc r) w) := by
  obtain ⟨i0, hi, hz0, hz1, hz2⟩ := info_parts Try.infoU8
  have t1 : ((r : Int) == 34) = false := by simp; omega
  have t2 : ((r : Int) == 92) = false := by simp; omega
  have t3 : ((r : Int) == 8) = false := by simp; omega
  have t4 : ((r : Int) == 12) = false := by simp; omega
  have t5 : ((r : Int) == 10) = false := by simp; omega
  have t6 : ((r : Int) == 13) = false := by simp; omega
  have t7 : ((r : Int) == 9) = false := by simp; omega
  have b1 := and15 ((r : Int) / 256) (by omega) (by omega)
  have b2 := and15 ((r : Int) / 16) (by omega) (by omega)
  have b3 := and15 (r : Int) (by omega) (by omega)
  have q3 := idxI ((r : Int) / 4096) (r / 4096) (by omega) (by omega)
  have q2 := idxI ((r : Int) / 256 % 16) (r / 256 % 16) (by omega) (by omega)
  have q1 := idxI ((r : Int) / 16 % 16) (r / 16 % 16) (by omega) (by omega)
  have q0 := idxI ((r : Int) % 16) (r % 16) (by omega) (by omega)
  have he : J.esc r = [92, 117, J.hd (r / 4096), J.hd (r / 256 % 16), J.hd (r / 16 % 16), J.hd (r % 16)] := by
    unfold J.esc
    rw [if_neg (by omega), if_neg (by omega), if_neg (by omega), if_neg (by omega), if_neg (by omega), if_neg (by omega)]
  rw [he]
  clear he h1 h2 h3 h4 h5 h6 h7
  generalize J.hd (r / 4096) = d3 at *
  generalize J.hd (r / 256 % 16) = d2 at *
  generalize J.hd (r / 16 % 16) = d1 at *
  generalize J.hd (r % 16) = d0 at *
  go_enter Try.func17, Try.ntmps17
  go_wp2_with fail
  go_region_law
    ((refine step_append_lies _ (by rfl) _ _ _ (by rfl) base 5 i0 _ 1 1 Try.underlying25 hi hz0 hz1 hz2 rfl (by omega) v n xs (by rfl) ((hown.alloc _).drew)
        ⟨w.heap.size, 0, none⟩ 6 6 [.int .u8 92, .int .u8 117, .int .u8 d3, .int .u8 d2, .int .u8 d1, .int .u8 d0] (by rfl) (by rfl) (World.news_of_block (cs := #[.int .u8 92, .int .u8 117, .int .u8 d3, .int .u8 d2, .int .u8 d1, .int .u8 d0]) (t := 5) (fr := (0, 0)) (heap_alloc_new w _)) (by simp [Value.oneCell'])
        (by omega) (by unfold maxLen; omega) (by omega) (by simp; omega) (w.heap.size + 1) (by simp) ?_; intro gg cap w1 hown1 hgrow hat hglt))
  all_goals
    go_wp2_with fail
    go_ret
    exact ⟨_, rfl, hown1, own_below ((hown.alloc _).drew) hgrow (((Below.refl _ _).alloc hbase _).drew) (by simp; omega)⟩

theorem appendEscape_any (base n : Nat) (v : Value) (xs : List Value) (r : Nat) (w : World) (hn : n ≤ 1000000) (hbase : base ≤ w.heap.size) (hown : w.ownsRow base 5 1 v n xs) (hr : r ≤ 65535) :
    Calls Try.prog 17 #[v, .int .i32 r] w (AE base n xs (J.esc r) w) := by
  by_cases c1 : r = 34 ∨ r = 92
  · exact esc_short base n v xs r w hn hbase hown c1
  · by_cases c2 : r = 8 ∨ r = 12 ∨ r = 10 ∨ r = 13 ∨ r = 9
    · exact esc_ctl base n v xs r w hn hbase hown c2
    · exact esc_hex base n v xs r w hn hbase hown hr (by omega) (by omega) (by omega) (by omega) (by omega) (by omega) (by omega)

theorem zzAppendEscape_any (base n : Nat) (v : Value) (xs : List Value) (r : Nat) (w : World) (hn : n ≤ 1000000) (hbase : base ≤ w.heap.size) (hown : w.ownsRow base 5 1 v n xs) (hr : r ≤ 65535) :
    Calls Try.prog 8 #[v, .int .i32 r] w (AE base n xs (J.esc r) w) := by
  go_enter Try.func8, Try.ntmps8
  go_wp2_with (go_at_call 17; refine (appendEscape_any base n v xs r _ hn hbase hown hr).mono ?_; rintro e w' ⟨v', rfl, h1, h2⟩)
  go_ret
  exact ⟨v', rfl, h1, h2⟩
end Go.Proofs.Qxb6601357a
