/-
  mValue, BY INDUCTION ON WHAT LIES AHEAD.
-/
import Derived.Test.Qxb6601357aMObject
import Derived.Test.Qxb6601357aMLit
import Derived.Test.Qxb6601357aMNumber
namespace Go.Proofs.Qxb6601357a
open Go.RowKit

def sTrue : ByteArray := ⟨#[116, 114, 117, 101]⟩
def sFalse : ByteArray := ⟨#[102, 97, 108, 115, 101]⟩
def sNull : ByteArray := ⟨#[110, 117, 108, 108]⟩

theorem sc_low {c : Nat} (h1 : 97 ≤ c) (h2 : c ≤ 122) : J.Sc c := by unfold J.Sc J.Inert J.Delim J.Ws; omega
theorem sTrue_sc : ∀ k (hk : k < sTrue.size), J.Sc (sTrue[k]).toNat := by
  intro k hk
  have hk' : k < 4 := hk
  match k, hk' with
  | 0, _ => exact sc_low (c := 116) (by decide) (by decide)
  | 1, _ => exact sc_low (c := 114) (by decide) (by decide)
  | 2, _ => exact sc_low (c := 117) (by decide) (by decide)
  | 3, _ => exact sc_low (c := 101) (by decide) (by decide)
theorem sFalse_sc : ∀ k (hk : k < sFalse.size), J.Sc (sFalse[k]).toNat := by
  intro k hk
  have hk' : k < 5 := hk
  match k, hk' with
  | 0, _ => exact sc_low (c := 102) (by decide) (by decide)
  | 1, _ => exact sc_low (c := 97) (by decide) (by decide)
  | 2, _ => exact sc_low (c := 108) (by decide) (by decide)
  | 3, _ => exact sc_low (c := 115) (by decide) (by decide)
  | 4, _ => exact sc_low (c := 101) (by decide) (by decide)
theorem sNull_sc : ∀ k (hk : k < sNull.size), J.Sc (sNull[k]).toNat := by
  intro k hk
  have hk' : k < 4 := hk
  match k, hk' with
  | 0, _ => exact sc_low (c := 110) (by decide) (by decide)
  | 1, _ => exact sc_low (c := 117) (by decide) (by decide)
  | 2, _ => exact sc_low (c := 108) (by decide) (by decide)
  | 3, _ => exact sc_low (c := 108) (by decide) (by decide)

theorem okv_lit {f : Nat → Nat} {n i : Nat} {s : ByteArray} {k : Int} (hpos : 0 < s.size) (hle : i + s.size ≤ n) (hall : ∀ k (hk : k < s.size), f (i + k) = (s[k]).toNat) (hsc : ∀ k (hk : k < s.size), J.Sc (s[k]).toNat)
    (hk : (k = 0 ∧ f i = 110) ∨ (k = 1 ∧ (f i = 116 ∨ f i = 102)) ∨ (k = 2 ∧ (f i = 45 ∨ J.Digit (f i)))) : J.OkV f n i (i + s.size) k := by
  refine J.okv_sc (by omega) hle hk (fun j h1 h2 => ?_)
  obtain ⟨m, rfl⟩ : ∃ m, j = i + m := ⟨j - i, by omega⟩
  rw [hall m (by omega)]
  exact hsc m (by omega)

theorem MV.no {f : Nat → Nat} {n i : Nat} {w : World} {d : Nat} {r k : Int} : MV f n i w (.returned (.tuple #[.int .i64 r, .int .i64 k, .bool false])) (w.drewN d) := ⟨⟨d, rfl⟩, .inr ⟨r, k, rfl⟩⟩
theorem MV.yes {f : Nat → Nat} {n i : Nat} {w : World} {d r : Nat} {k : Int} (h : J.OkV f n i r k) : MV f n i w (.returned (.tuple #[.int .i64 r, .int .i64 k, .bool true])) (w.drewN d) := ⟨⟨d, rfl⟩, .inl ⟨r, k, rfl, h⟩⟩

theorem mValue_end (b off n c : Nat) (f : Nat → Nat) (w : World) (_hn : n ≤ 1048576) : Calls Try.prog 9 #[.slice (some ⟨b, off, none⟩) n c, .int .i64 n] w (MV f n n w) := by
  have hd : decide ((n : Int) < 0) = false := decide_eq_false (by omega)
  go_enter Try.func9, Try.ntmps9
  go_wp2_with fail
  go_ret3
  exact MV.no (d := 0)

set_option maxRecDepth 100000 in
set_option maxHeartbeats 3200000 in
theorem mValue_step (b off n c : Nat) (f : Nat → Nat) (hf : ∀ i, f i < 256) (hn : n ≤ 1048576) (N : Nat) (hV : VC b off n c f N) (j : Nat) (w : World) (hj : n ≤ j + N + 1) (hlt : j < n) (h : Has w b off n f) :
    Calls Try.prog 9 #[.slice (some ⟨b, off, none⟩) n c, .int .i64 j] w (MV f n j w) := by
  have hd : decide ((j : Int) < 0) = false := decide_eq_false (by omega)
  have hd2 : decide ((n : Int) ≤ (j : Int)) = false := by simp; omega
  have hc0 := h.cell j hlt
  have g0 : (0 : Int) ≤ (j : Int) := by omega
  have g1 : (j : Int) < (n : Int) := by omega
  by_cases c1 : f j = 34
  · have t1 : ((f j : Int) == 34) = true := eqt (k := 34) c1
    have H : Hid (f j = 34) := c1
    clear c1
    go_enter Try.func9, Try.ntmps9
    go_wp2_with fail
    refine (mString_any b off n c f hf j w hn hlt h).mono ?_
    rintro e w' (⟨r, hr, rfl, hw'⟩ | ⟨_, rfl, hw'⟩)
    · subst w'
      go_wp2_with fail
      go_ret3
      exact MV.yes (d := 0) (J.okv_str hlt H.out (J.strM_ret _ _ _ hr))
    · subst w'
      go_wp2_with fail
      go_ret3
      exact MV.no (d := 0)
  have t1 : ((f j : Int) == 34) = false := eqf (k := 34) c1
  by_cases c2 : f j = 91
  · have t2 : ((f j : Int) == 91) = true := eqt (k := 91) c2
    have H : Hid (f j = 91) := c2
    clear c1 c2
    go_enter Try.func9, Try.ntmps9
    go_wp2_with fail
    refine (mArray_step b off n c f N hV j w hn hlt hj H.out h).mono ?_
    rintro e w' ⟨⟨d, rfl⟩, ⟨r, rfl, o1, o2, o3, o4⟩ | rfl⟩
    · go_wp2_with fail
      go_ret3
      exact MV.yes ⟨o1, o2, o3, .inr (.inl ⟨rfl, H.out, o4⟩)⟩
    · go_wp2_with fail
      go_ret3
      exact MV.no
  have t2 : ((f j : Int) == 91) = false := eqf (k := 91) c2
  by_cases c3 : f j = 123
  · have t3 : ((f j : Int) == 123) = true := eqt (k := 123) c3
    have H : Hid (f j = 123) := c3
    clear c1 c2 c3
    go_enter Try.func9, Try.ntmps9
    go_wp2_with fail
    refine (mObject_step b off n c f hf N hV j w hn hlt hj H.out h).mono ?_
    rintro e w' ⟨⟨d, rfl⟩, ⟨r, rfl, o1, o2, o3, o4⟩ | rfl⟩
    · go_wp2_with fail
      go_ret3
      exact MV.yes ⟨o1, o2, o3, .inr (.inr (.inl ⟨rfl, H.out, o4⟩))⟩
    · go_wp2_with fail
      go_ret3
      exact MV.no
  have t3 : ((f j : Int) == 123) = false := eqf (k := 123) c3
  by_cases c4 : f j = 116
  · have t4 : ((f j : Int) == 116) = true := eqt (k := 116) c4
    have H : Hid (f j = 116) := c4
    clear c1 c2 c3 c4
    go_enter Try.func9, Try.ntmps9
    go_wp2_with fail
    refine (mLit_any b off n c f j sTrue w hn hlt (by decide) h).mono ?_
    rintro e w' ⟨⟨d, rfl⟩, ⟨rfl, o1, o2⟩ | rfl⟩
    · go_wp2_with fail
      go_ret3
      exact MV.yes (okv_lit (by decide) o1 o2 sTrue_sc (.inr (.inl ⟨rfl, .inl H.out⟩)))
    · go_wp2_with fail
      go_ret3
      exact MV.no
  have t4 : ((f j : Int) == 116) = false := eqf (k := 116) c4
  by_cases c5 : f j = 102
  · have t5 : ((f j : Int) == 102) = true := eqt (k := 102) c5
    have H : Hid (f j = 102) := c5
    clear c1 c2 c3 c4 c5
    go_enter Try.func9, Try.ntmps9
    go_wp2_with fail
    refine (mLit_any b off n c f j sFalse w hn hlt (by decide) h).mono ?_
    rintro e w' ⟨⟨d, rfl⟩, ⟨rfl, o1, o2⟩ | rfl⟩
    · go_wp2_with fail
      go_ret3
      exact MV.yes (okv_lit (by decide) o1 o2 sFalse_sc (.inr (.inl ⟨rfl, .inr H.out⟩)))
    · go_wp2_with fail
      go_ret3
      exact MV.no
  have t5 : ((f j : Int) == 102) = false := eqf (k := 102) c5
  by_cases c6 : f j = 110
  · have t6 : ((f j : Int) == 110) = true := eqt (k := 110) c6
    have H : Hid (f j = 110) := c6
    clear c1 c2 c3 c4 c5 c6
    go_enter Try.func9, Try.ntmps9
    go_wp2_with fail
    refine (mLit_any b off n c f j sNull w hn hlt (by decide) h).mono ?_
    rintro e w' ⟨⟨d, rfl⟩, ⟨rfl, o1, o2⟩ | rfl⟩
    · go_wp2_with fail
      go_ret3
      exact MV.yes (okv_lit (by decide) o1 o2 sNull_sc (.inl ⟨rfl, H.out⟩))
    · go_wp2_with fail
      go_ret3
      exact MV.no
  have t6 : ((f j : Int) == 110) = false := eqf (k := 110) c6
  by_cases c7 : f j = 45
  · have t7 : ((f j : Int) == 45) = true := eqt (k := 45) c7
    have H : Hid (f j = 45) := c7
    clear c1 c2 c3 c4 c5 c6 c7
    go_enter Try.func9, Try.ntmps9
    go_wp2_with fail
    refine (mNumber_any b off n c f j w hn hlt h).mono ?_
    rintro e w' (⟨r, rfl, hw', o1, o2⟩ | ⟨rfl, hw'⟩)
    · subst w'
      go_wp2_with fail
      go_ret3
      exact MV.yes (d := 0) (J.okv_sc o1 o2.2.1 (.inr (.inr ⟨rfl, .inl H.out⟩)) o2.2.2)
    · subst w'
      go_wp2_with fail
      go_ret3
      exact MV.no (d := 0)
  have t7 : ((f j : Int) == 45) = false := eqf (k := 45) c7
  by_cases c8 : J.Digit (f j)
  · clear c1 c2 c3 c4 c5 c6 c7
    go_enter Try.func9, Try.ntmps9
    go_wp2_with (go_at_call 22; refine (isDigit_yes _ _ c8).mono ?_; rintro e w' ⟨rfl, hw'⟩; subst w')
    refine (mNumber_any b off n c f j w hn hlt h).mono ?_
    rintro e w' (⟨r, rfl, hw', o1, o2⟩ | ⟨rfl, hw'⟩)
    · subst w'
      go_wp2_with fail
      go_ret3
      exact MV.yes (d := 0) (J.okv_sc o1 o2.2.1 (.inr (.inr ⟨rfl, .inr c8⟩)) o2.2.2)
    · subst w'
      go_wp2_with fail
      go_ret3
      exact MV.no (d := 0)
  · clear c1 c2 c3 c4 c5 c6 c7
    go_enter Try.func9, Try.ntmps9
    go_wp2_with (go_at_call 22; refine (isDigit_no _ _ c8).mono ?_; rintro e w' ⟨rfl, hw'⟩; subst w')
    go_ret3
    exact MV.no (d := 0)

/-- mValue's contract. -/
theorem mValue_all (b off n c : Nat) (f : Nat → Nat) (hf : ∀ i, f i < 256) (hn : n ≤ 1048576) : ∀ N, VC b off n c f N := by
  intro N
  induction N with
  | zero =>
    intro j w hj hjn h
    obtain rfl : j = n := by omega
    exact mValue_end b off j c f w hn
  | succ N ih =>
    intro j w hj hjn h
    by_cases e : j = n
    · subst e; exact mValue_end b off j c f w hn
    · exact mValue_step b off n c f hf hn N ih j w hj (by omega) h
end Go.Proofs.Qxb6601357a
