/-
  mLit: A LITERAL (true, false, null).
-/
import Derived.Test.Qxb6601357aMString
namespace Go.Proofs.Qxb6601357a
open Go.RowKit

/-- What mLit answers. -/
def ML (f : Nat → Nat) (n i : Nat) (s : ByteArray) (w : World) (e : Ending) (w' : World) : Prop :=
  (∃ d, w' = w.drewN d) ∧ ((e = .returned (.tuple #[.int .i64 ((i + s.size : Nat) : Int), .bool true]) ∧ i + s.size ≤ n ∧ ∀ k (hk : k < s.size), f (i + k) = (s[k]).toNat) ∨ e = .returned (.tuple #[.int .i64 0, .bool false]))

set_option maxHeartbeats 1600000 in
theorem mLit_any (b off n c : Nat) (f : Nat → Nat) (i : Nat) (s : ByteArray) (w : World) (hn : n ≤ 1048576) (hi : i < n) (hs : s.size ≤ 100) (h : Has w b off n f) :
    Calls Try.prog 21 #[.slice (some ⟨b, off, none⟩) n c, .int .i64 i, .string s] w (ML f n i s w) := by
  by_cases hsz : n - i < s.size
  · go_enter Try.func21, Try.ntmps21
    go_wp2_with fail
    go_ret2
    exact ⟨⟨0, rfl⟩, .inr rfl⟩
  · have hd0 : decide ((n : Int) - (i : Int) < (s.size : Int)) = false := by simp; omega
    go_enter Try.func21, Try.ntmps21
    go_wp2_with fail
    go_loopw [8] (fun t wr => ∃ k d : Nat, t = .int .i64 k ∧ k ≤ s.size ∧ wr = w.drewN d ∧ ∀ q (hq : q < s.size), q < k → f (i + q) = (s[q]).toNat) (fun t _ => s.size - (intOf t).toNat)
    case atStart => exact ⟨0, 0, rfl, by omega, rfl, fun q hq hk => absurd hk (by omega)⟩
    case round =>
      obtain ⟨k, d, rfl, hk, rfl, hall⟩ := hrel
      by_cases hlt : k < s.size
      · have hc1 := h.cell (i + k) (by omega)
        have g0 : (0 : Int) ≤ (i : Int) + (k : Int) := by omega
        have g1 : (i : Int) + (k : Int) < (n : Int) := by omega
        have g2 : (0 : Int) ≤ (k : Int) := by omega
        have g3 : (k : Int) < (s.size : Int) := by omega
        by_cases hx : f (i + k) = (s[k]).toNat
        · have t1 : ((f (i + k) : Int) != ((s[k]).toNat : Int)) = false := by simp; omega
          have HX : Hid (f (i + k) = (s[k]).toNat) := hx
          clear hx
          go_wp2_with fail
          go_quiet (fail)
          go_wp2_with fail
          go_roundw
          case rel =>
            refine ⟨k + 1, d + nq, by go_num, by omega, rfl, fun q hq hqk => ?_⟩
            by_cases e : q = k
            · subst e; exact HX.out
            · exact hall q hq (by omega)
          case measure => simp [intOf]; omega
        · have t1 : ((f (i + k) : Int) != ((s[k]).toNat : Int)) = true := by simp; omega
          clear hx
          go_wp2_with fail
          go_quiet (fail)
          go_wp2_with fail
          go_ret2
          exact ⟨⟨d + nq, by simp⟩, .inr rfl⟩
      · go_wp2_with fail
        go_ret2
        exact ⟨⟨d, rfl⟩, .inl ⟨rfl, by omega, fun q hq => hall q hq (by omega)⟩⟩
end Go.Proofs.Qxb6601357a
