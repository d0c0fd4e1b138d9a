/-
  escapeLength OVER A TEXT THAT OPENS WITH A BACKSLASH, 'u' AND FOUR HEXADECIMAL DIGITS; zzHexDigit; the bound on the length.
-/
import Derived.Test.Qxb6600090aClone
namespace Go.Proofs.Qxb6600090a
open Go.RowKit

/-- The digit's byte. -/
def hexd (d : Int) (up : Bool) : Int := if d < 10 then 48 + d else if up then 55 + d else 87 + d
def HexOk (c : Int) : Prop := (48 ≤ c ∧ c ≤ 57) ∨ (97 ≤ c ∧ c ≤ 102) ∨ (65 ≤ c ∧ c ≤ 70)
theorem hexd_ok (d : Int) (up : Bool) (h0 : 0 ≤ d) (h1 : d < 16) : HexOk (hexd d up) := by
  unfold hexd HexOk
  split
  · omega
  · split <;> omega

theorem hexDigit_any (d : Int) (up : Bool) (w : World) (h0 : 0 ≤ d) (h1 : d < 16) :
    Calls Try.prog 21 #[.int .u16 d, .bool up] w fun e w' => e = .returned (.int .u8 (hexd d up)) ∧ w' = w := by
  unfold hexd
  by_cases a : d < 10
  · rw [if_pos a]
    go_enter Try.func21, Try.ntmps21
    go_wp2
    go_ret
    exact ⟨rfl, rfl⟩
  · rw [if_neg a]
    cases up with
    | true =>
      rw [if_pos rfl]
      have e : (55 : Int) + d = 65 + d - 10 := by omega
      rw [e]; clear e
      go_enter Try.func21, Try.ntmps21
      go_wp2
      go_ret
      exact ⟨rfl, rfl⟩
    | false =>
      rw [if_neg (by decide)]
      have e : (87 : Int) + d = 97 + d - 10 := by omega
      rw [e]; clear e
      go_enter Try.func21, Try.ntmps21
      go_wp2
      go_ret
      exact ⟨rfl, rfl⟩

theorem bytesE_yes (a : Int) (u : Bool) (ao : Option Addr) (n c : Nat) (w : World) (h : n ≤ 1048576) :
    Calls Try.prog 20 #[.int .u16 a, .bool u, .slice ao n c] w fun e w' => e = .returned (.bool true) ∧ w' = w := by
  go_enter Try.func20, Try.ntmps20
  go_wp2
  go_ret
  exact ⟨rfl, rfl⟩
theorem bytesE_no (a : Int) (u : Bool) (ao : Option Addr) (n c : Nat) (w : World) (h : ¬ n ≤ 1048576) :
    Calls Try.prog 20 #[.int .u16 a, .bool u, .slice ao n c] w fun e w' => e = .returned (.bool false) ∧ w' = w := by
  go_enter Try.func20, Try.ntmps20
  go_wp2
  go_ret
  exact ⟨rfl, rfl⟩

set_option maxHeartbeats 400000 in
theorem escape_six (g n c : Nat) (z : Nat → Int) (w : World) (hn : 6 ≤ n) (hnc : n ≤ c) (hc1 : w.cell? ⟨g, 1, none⟩ = some (.int .u8 117))
    (hz : ∀ k, k < 4 → w.cell? ⟨g, 2 + k, none⟩ = some (.int .u8 (z k))) (hx : ∀ k, k < 4 → HexOk (z k)) :
    Calls Try.prog 26 #[.slice (some ⟨g, 0, none⟩) n c] w fun e w' => e = .returned (.int .i64 6) ∧ w' = w := by
  have hn1 : (1 : Int) < (n : Int) := by omega
  have hn6 : (6 : Int) ≤ (n : Int) := by omega
  have hnc' : (n : Int) ≤ (c : Int) := by omega
  go_enter Try.func26, Try.ntmps26
  go_wp2
  go_loop [28] (fun i => ∃ k : Nat, k ≤ 4 ∧ i = .int .i64 k) (fun i => 4 - (intOf i).toNat)
  case atStart => exact ⟨0, by omega, rfl⟩
  case round =>
    obtain ⟨k, hk, rfl⟩ := hrel
    by_cases hlt : k < 4
    · have hcell := hz k hlt
      have hh := hx k hlt
      clear hz hx
      generalize z k = y at *
      unfold HexOk at hh
      rcases hh with ⟨h1, h2⟩ | ⟨h1, h2⟩ | ⟨h1, h2⟩
      all_goals
        go_wp2
        go_round
        case rel => exact ⟨k + 1, by omega, by go_num⟩
        case measure => simp [intOf]; omega
    · clear hz hx
      go_wp2
      go_ret
      exact ⟨rfl, rfl⟩
end Go.Proofs.Qxb6600090a
