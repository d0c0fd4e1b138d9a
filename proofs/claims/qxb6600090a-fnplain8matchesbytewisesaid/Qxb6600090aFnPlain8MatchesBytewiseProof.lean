/-
  THE SHELL OF A PROOF OF 'Rows.FnPlain8MatchesBytewiseSaid' ('example.com/notchline/notchline/zzlaws_manifest_b1.FnPlain8MatchesBytewise'), WRITTEN BY PROGRAM (proof-skeleton.mjs) off the guide's own print for that function. Not trusted: Lean checks it.
-/
import Derived.Test.Qxb6600090aRows
import Derived.Test.Qxb6600090aPlain8Walks
import Derived.WalkKit
import Derived.ProofKit
import Derived.OpenShut
import Derived.ShutString
namespace Go.Proofs.Qxb6600090a.fnPlain8MatchesBytewise
open Go.ChangeShapes Go.WideShapes Go.ChangeAt Go.RowKit
open Go.ChangeMaps (open_string shut_string)
set_option linter.unusedVariables false      -- a walk need not use every 'w<i>' (that an integer argument fits its kind)

theorem own : ownKnob Try.prog.godebug = none := by kernel_rfl

/-! ### STEP 1: THE WALK: the Go text returns true. -/
theorem byte_at (x k : Nat) (w : World) :
    Calls Try.prog 10 #[.int .u8 ((x : Int) / 2 ^ (8 * k) % 256)] w fun e w' => e = .returned (.bool (plB (P8.byt x k))) ∧ w' = w := by
  have e : ((x : Int) / 2 ^ (8 * k) % 256) = ((P8.byt x k : Nat) : Int) := by simp [P8.byt]
  rw [e]
  exact plainByte_any _ _ (P8.byt_lt _ _)

theorem walkN (x : Nat) (HX : Hid (x < 18446744073709551616)) (w : World) :
    Calls Try.prog 3 #[.int .u64 x] w fun e w' => e = .returned (.bool true) ∧ Grown w w' := by
  go_enter Try.func3, Try.ntmps3
  go_wp2
  go_loop [3, 4] (fun t i => ∃ k : Nat, k ≤ 8 ∧ i = .int .u64 k ∧ t = .bool (allB x k)) (fun _ i => 8 - (intOf i).toNat)
  case atStart => exact ⟨0, by omega, rfl, rfl⟩
  case round =>
    obtain ⟨k, hk, rfl, rfl⟩ := hrel
    by_cases hlt : k < 8
    · have HS : Hid (allB x (k + 1) = (allB x k && plB (P8.byt x k))) := allB_succ x k
      cases hb : plB (P8.byt x k) with
      | true =>
        go_wp2_with (go_at_call 10; refine (byte_at x k _).mono ?_; rintro e w' ⟨rfl, rfl⟩)
        go_round
        case rel => exact ⟨k + 1, by omega, by go_num, by rw [HS.out, hb, Bool.and_true]⟩
        case measure => simp [intOf]; omega
      | false =>
        go_wp2_with (go_at_call 10; refine (byte_at x k _).mono ?_; rintro e w' ⟨rfl, rfl⟩)
        go_round
        case rel => exact ⟨k + 1, by omega, by go_num, by rw [HS.out, hb, Bool.and_false]⟩
        case measure => simp [intOf]; omega
    · have e8 : k = 8 := by omega
      subst e8
      have HP : Hid (p8 (x : Int) = allB x 8) := p8_eq x HX.out
      cases hb : allB x 8 with
      | true =>
        have hp : p8 (x : Int) = true := HP.out.trans hb
        go_wp2_with (go_at_call 11; refine (zzplain8_any _ _ (by omega) (by have := HX.out; omega)).mono ?_; rintro e w' ⟨rfl, rfl⟩)
        go_ret
        exact ⟨rfl, Grown.refl _⟩
      | false =>
        have hp : p8 (x : Int) = false := HP.out.trans hb
        go_wp2_with (go_at_call 11; refine (zzplain8_any _ _ (by omega) (by have := HX.out; omega)).mono ?_; rintro e w' ⟨rfl, rfl⟩)
        go_ret
        exact ⟨rfl, Grown.refl _⟩

theorem walk (a0 : Int) (w0 : (Lit.int .u64 a0).wf = true) (w : World) :
    Calls Try.prog 3 #[.int .u64 a0] w fun e w' => e = .returned (.bool true) ∧ Grown w w' := by
  obtain ⟨b0, b1⟩ : 0 ≤ a0 ∧ a0 < 18446744073709551616 := by
    have := bounds_u64 w0; omega
  obtain ⟨x, rfl⟩ := Int.eq_ofNat_of_zero_le b0
  exact walkN x (show x < 18446744073709551616 by omega) w

/-! ### THE ROW's STEP: WRITTEN OUT: LEAVE IT -/
set_option maxRecDepth 100000 in
theorem lifted (os : Os) (started : os.Started) (H : Type) (enc : TypeId × Value → H) :
    ReturnsInHanded {} Try.checked os 3 .any (Rows.fnPlain8MatchesBytewiseSpec.pre6 enc Try.prog Try.f3 Rows.fnPlain8MatchesBytewiseRow.domain false) (Rows.fnPlain8MatchesBytewiseSpec.post enc Try.prog Try.f3 false true false false) := by
  refine returnsInHanded_of_change (C := Try.checked) own started (by kernel_rfl) Try.func3
    (ChangeSpec.witness6 (enc := enc) (C := Try.checked) false ⟨#[], #[.int .u64 0], []⟩ 8 (by kernel_rfl) (by kernel_rfl) (by kernel_rfl) (by kernel_rfl)) ?_
  intro W base args ds gs before hval0 hW hcnd _
  have hval : ∀ (j : Nat) t v, Try.f3.params[j]? = some t → args[j]? = some v → Value.okWide Try.prog W .any base t v := hval0
  have hW' := hW
  obtain ⟨p, q, hA0, hV, rfl, hfz, hnd⟩ := hW
  have hA : DataW.TrodAll enc Try.prog W 0 (fun _ => true) true Try.f3.params.toList args.toList ds p := hA0
  rw [Try.params3] at hA hval
  obtain ⟨v0, vs0, d0, ds0, p0, q0, hargs, rfl, rfl, h0, r0⟩ := trodAll_cons hA
  obtain ⟨rfl, rfl, rfl⟩ := trodAll_nil r0
  obtain rfl : args = #[v0] := by cases args; simp_all
  obtain ⟨rfl, rfl⟩ := trodVars_none hV
  obtain ⟨a0, rfl, rfl, rfl, w0⟩ := open_int Try.underlying22 (hval 0 22 v0 rfl rfl) h0
  clear hA0 hval0
  simp only [List.append_nil] at hW'
  refine (walk a0 w0 W).mono fun e W' ⟨he, hg⟩ => ?_
  subst he
  exact ⟨_, rfl, post_of_same (pa := []) (pv := []) hW' (fun _ _ _ => (trodAll_cons_mk (shut_bool Try.underlying4 _) trodAll_mk0)) (fun sp _ => (trodAll_cons_mk (shut_int Try.underlying22 w0) trodAll_mk0)) (fun _ _ => rfl) rfl
    (hg.frame _) hg.2.1 (ok_one (by kernel_rfl) rfl (okWide_bool_mk Try.underlying4 _))⟩

theorem over : Rows.fnPlain8MatchesBytewiseRow.holds Try.pinned (OpenSpec.ofChange Rows.fnPlain8MatchesBytewiseSpec) :=
  OpenClaim.holds_of_wide 3 Try.f3 rfl rfl rfl rfl rfl rfl rfl ⟨rfl, rfl, rfl, rfl, rfl⟩ rfl rfl rfl rfl rfl (by kernel_rfl) Try.func3 (by kernel_rfl)
    (of_decide_eq_true (by kernel_rfl)) (by unfold Func.isWrapper; first | (rw [if_pos (by decide +kernel)]; kernel_rfl) | (rw [if_neg (by decide +kernel)]; exact ⟨rfl, rfl⟩))
    (fun os started H enc _ => lifted os started H enc)

/-- ████ THE STATEMENT ████ -/
theorem proved : Rows.FnPlain8MatchesBytewiseSaid :=
  over
#print axioms proved
end Go.Proofs.Qxb6600090a.fnPlain8MatchesBytewise
