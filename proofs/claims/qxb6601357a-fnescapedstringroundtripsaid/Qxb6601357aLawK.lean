/-
  kind, AND THE WALK OF FnKindMatchesGrammar.
-/
import Derived.Test.Qxb6601357aLawV
namespace Go.Proofs.Qxb6601357a
open Go.RowKit

theorem kind_ok (b off n c : Nat) (f : Nat → Nat) (r : Nat) (k : Int) (w : World) (hn : n ≤ 1048576) (h : Has w b off n f) (hok : J.OkV f n 0 r k) :
    Calls Try.prog 25 #[.slice (some ⟨b, off, none⟩) n c] w fun e w' => e = .returned (.int .i64 k) ∧ w' = w := by
  have h1 := hok.lt
  have h2 := hok.le
  have hc1 : w.cell? ⟨b, off, none⟩ = some (.int .u8 (f 0)) := by simpa using h.cell 0 (by omega)
  have g1 : (0 : Int) < (n : Int) := by omega
  have hkk := hok.kind
  clear hok h
  generalize f 0 = z at *
  have go : ∀ (q : Nat) (kk : Int), z = q → (kk = if q = 110 then 0 else if q = 116 ∨ q = 102 then 1 else if q = 34 then 3 else if q = 91 then 4 else if q = 123 then 5 else 2) →
      Calls Try.prog 25 #[.slice (some ⟨b, off, none⟩) n c] w fun e w' => e = .returned (.int .i64 kk) ∧ w' = w := by
    intro q kk hz hkk2
    subst hz
    by_cases c1 : z = 110
    · subst c1
      rw [if_pos rfl] at hkk2
      subst hkk2
      clear hkk
      go_enter Try.func25, Try.ntmps25
      go_wp2
      go_ret
      exact ⟨rfl, rfl⟩
    rw [if_neg c1] at hkk2
    have t1 : ((z : Int) == 110) = false := eqf (k := 110) c1
    by_cases c2 : z = 116 ∨ z = 102
    · rw [if_pos c2] at hkk2
      subst hkk2
      clear hkk t1 c1
      rcases c2 with rfl | rfl
      all_goals
        go_enter Try.func25, Try.ntmps25
        go_wp2
        go_ret
        exact ⟨rfl, rfl⟩
    rw [if_neg c2] at hkk2
    have t2 : ((z : Int) == 116) = false := eqf (k := 116) (by omega)
    have t3 : ((z : Int) == 102) = false := eqf (k := 102) (by omega)
    by_cases c3 : z = 34
    · rw [if_pos c3] at hkk2
      subst hkk2
      clear hkk t1 c1 t2 t3 c2
      subst c3
      go_enter Try.func25, Try.ntmps25
      go_wp2
      go_ret
      exact ⟨rfl, rfl⟩
    rw [if_neg c3] at hkk2
    have t4 : ((z : Int) == 34) = false := eqf (k := 34) c3
    by_cases c4 : z = 91
    · rw [if_pos c4] at hkk2
      subst hkk2
      clear hkk t1 c1 t2 t3 c2 t4 c3
      subst c4
      go_enter Try.func25, Try.ntmps25
      go_wp2
      go_ret
      exact ⟨rfl, rfl⟩
    rw [if_neg c4] at hkk2
    have t5 : ((z : Int) == 91) = false := eqf (k := 91) c4
    by_cases c5 : z = 123
    · rw [if_pos c5] at hkk2
      subst hkk2
      clear hkk t1 c1 t2 t3 c2 t4 c3 t5 c4
      subst c5
      go_enter Try.func25, Try.ntmps25
      go_wp2
      go_ret
      exact ⟨rfl, rfl⟩
    rw [if_neg c5] at hkk2
    have t6 : ((z : Int) == 123) = false := eqf (k := 123) c5
    subst hkk2
    clear hkk c1 c2 c3 c4 c5
    go_enter Try.func25, Try.ntmps25
    go_wp2
    go_ret
    exact ⟨rfl, rfl⟩
  refine go z k rfl ?_
  rcases hkk with ⟨rfl, rfl, _⟩ | ⟨rfl, rfl, _⟩ | ⟨rfl, rfl, _⟩ | ⟨⟨rfl, rfl⟩ | ⟨rfl, rfl | rfl⟩ | ⟨rfl, hz⟩, _⟩
  · rfl
  · rfl
  · rfl
  · rfl
  · rfl
  · rfl
  · unfold J.Digit at hz
    rw [if_neg (by omega), if_neg (by omega), if_neg (by omega), if_neg (by omega), if_neg (by omega)]

theorem zzkind_ok (b off n c : Nat) (f : Nat → Nat) (r : Nat) (k : Int) (w : World) (hn : n ≤ 1048576) (h : Has w b off n f) (hok : J.OkV f n 0 r k) :
    Calls Try.prog 11 #[.slice (some ⟨b, off, none⟩) n c] w fun e w' => e = .returned (.int .i64 k) ∧ w' = w := by
  go_enter Try.func11, Try.ntmps11
  go_wp2_with (go_at_call 25; refine (kind_ok b off n c f r k _ hn h hok).mono ?_; rintro e w' ⟨rfl, hw'⟩; subst w')
  go_ret
  exact ⟨rfl, rfl⟩

theorem mValue0 (b off n c : Nat) (f : Nat → Nat) (hf : ∀ i, f i < 256) (w : World) (hn : n ≤ 1048576) (h : Has w b off n f) : Calls Try.prog 9 #[.slice (some ⟨b, off, none⟩) n c, .int .i64 0] w (MV f n 0 w) := by
  have k := mValue_all b off n c f hf hn n 0 w (by omega) (by omega) h
  rw [show (0 : Int) = ((0 : Nat) : Int) from rfl]
  exact k
theorem zzvalueEnd0 (b off n c : Nat) (f : Nat → Nat) (r : Nat) (k : Int) (w : World) (hn : n ≤ 1048576) (h : Has w b off n f) (hok : J.OkV f n 0 r k) (hend : k = 0 ∨ k = 1 ∨ k = 2 → r < n → J.Delim (f r)) :
    Calls Try.prog 10 #[.slice (some ⟨b, off, none⟩) n c, .int .i64 0] w fun e w' => e = .returned (.int .i64 r) ∧ w' = w := by
  have k := zzvalueEnd_ok b off n c f 0 r k w hn h hok hend
  rw [show (0 : Int) = ((0 : Nat) : Int) from rfl]
  exact k

set_option maxRecDepth 100000 in
set_option maxHeartbeats 1600000 in
theorem walkK (b off n c : Nat) (f : Nat → Nat) (hf : ∀ i, f i < 256) (w : World) (hn0 : 0 < n) (hn : n ≤ 65536) (hbl : b < w.heap.size) (h : Has w b off n f) :
    Calls Try.prog 5 #[.slice (some ⟨b, off, none⟩) n c] w fun e w' => e = .returned (.bool true) ∧ Below w.heap.size w w' := by
  have hd0 : ((n : Int) == 0) = false := by simp; omega
  go_enter Try.func5, Try.ntmps5
  go_wp2_with (go_at_call 16; refine (bytesK_yes _ _ _ _ (by omega)).mono ?_; rintro e w' ⟨rfl, hw'⟩; subst w')
  refine (mValue0 b off n c f hf w (by omega) h).mono ?_
  rintro e w' ⟨⟨d, rfl⟩, ⟨r, k, rfl, hok⟩ | ⟨r, k, rfl⟩⟩
  · have o1 := hok.lt
    have o2 := hok.le
    have hh := h.drewN d
    have hbl' : b < (w.drewN d).heap.size := hbl
    have hbw : Below w.heap.size w (w.drewN d) := below_dr (Below.refl _ _) d
    by_cases hrn : r = n
    · subst hrn
      go_wp2_with (first
        | (go_at_call 15; refine (copyBytes_some b off r c f _ (by omega) hbl' hh).mono ?_; rintro e w2 ⟨rfl, hh2, hb2⟩)
        | (go_at_call 11; refine (zzkind_ok _ 0 r r f r k _ (by omega) hh2 hok).mono ?_; rintro e w' ⟨rfl, hw'⟩; subst w')
        | (go_at_call 10; refine (zzvalueEnd0 _ 0 r r f r k _ (by omega) hh2 hok (fun _ e => absurd e (by omega))).mono ?_; rintro e w' ⟨rfl, hw'⟩; subst w'))
      go_ret
      exact ⟨rfl, hbw.trans hb2⟩
    · have t : ((r : Int) != (n : Int)) = true := by simp; omega
      clear hrn
      go_wp2_with fail
      go_ret
      exact ⟨rfl, hbw⟩
  · go_wp2_with fail
    go_ret
    exact ⟨rfl, below_dr (Below.refl _ _) d⟩
end Go.Proofs.Qxb6601357a
