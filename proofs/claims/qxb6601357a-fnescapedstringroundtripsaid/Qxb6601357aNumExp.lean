/-
  mNumber's LAST PART: the exponent.
-/
import Derived.Test.Qxb6601357aMString
import Derived.Deep.Cut
import Derived.Deep.CutRange
import Derived.Deep.DeepCutAuto
namespace Go.Proofs.Qxb6601357a
open Go.RowKit

theorem sc_digit {c : Nat} (h : J.Digit c) : J.Sc c := by unfold J.Digit at h; unfold J.Sc J.Inert J.Delim J.Ws; omega

/-- The bytes from i to j are a scalar's. -/
def Nm (f : Nat → Nat) (n i j : Nat) : Prop := i ≤ j ∧ j ≤ n ∧ ∀ q, i ≤ q → q < j → J.Sc (f q)
theorem Nm.start {f : Nat → Nat} {n i : Nat} (h : i ≤ n) : Nm f n i i := ⟨Nat.le_refl _, h, fun q h1 h2 => absurd h1 (by omega)⟩
theorem Nm.step {f : Nat → Nat} {n i j : Nat} (h : Nm f n i j) (hj : j < n) (hs : J.Sc (f j)) : Nm f n i (j + 1) :=
  ⟨by have := h.1; omega, hj, fun q h1 h2 => by
    by_cases e : q = j
    · subst e; exact hs
    · exact h.2.2 q h1 (by omega)⟩

/-- What mNumber answers. -/
def MN (f : Nat → Nat) (n i : Nat) (w : World) (e : Ending) (w' : World) : Prop :=
  (∃ r : Nat, e = .returned (.tuple #[.int .i64 r, .bool true]) ∧ w' = w ∧ i < r ∧ Nm f n i r) ∨ (e = .returned (.tuple #[.int .i64 0, .bool false]) ∧ w' = w)

set_option maxRecDepth 100000 in
set_option maxHeartbeats 3200000 in
theorem num_exp {tail : Code} (htail : ∃ c0 c1 c2 c3 c4 c5, Try.f23.body = some (.seq c0 (.seq c1 (.seq c2 (.seq c3 (.seq c4 (.seq c5 tail))))))) (b off n c : Nat) (f : Nat → Nat) (i j3 : Nat) (w : World) (hn : n ≤ 1048576) (h : Has w b off n f) (hij3 : i < j3) (hj3 : Nm f n i j3)
    {u2 u3 u4 u5 u7 u8 u9 u10 u11 u12 u13 u14 u15 u16 u17 u18 u19 u20 u21 u22 u23 u24 u25 u26 u27 u28 u29 u30 u31 u32 u33 u34 u35 u36 u37 u38 u39 u40 u41 u42 u43 u44 u45 u46 u47 u48 u49 u50 u51 u52 u53 u54 u55 u56 u57 u58 u59 u60 u61 u62 u63 u64 u65 u66 u67 u68 u69 u70 u71 u72 u73 u74 u75 u76 u77 u78 u79 u80 u81 u82 u83 u84 u85 u86 u87 u88 u89 u90 u91 u92 u93 u94 u95 u96 u97 u98 u99 u100 u101 u102 u103 u104 u105 u106 u107 u108 u109 u110 u111 u112 u113 u114 u115 u116 u117 u118 u119 u120 u121 u122 u123 u124 u125 u126 u127 u128 u129 u130 u131 u132 u133 u134 u135 u136 u137 u138 u139 u140 u141 u142 u143 u144 u145 u146 u147 u148 u149 u150 u151 u152 u153 u154 u155 u156 u157 u158 u159 u160 : Value} :
    Code.wp Try.prog tail (bodyPost Try.prog Try.f23 (MN f n i w)) ⟨List.toArray ((.slice (some ⟨b, off, none⟩) n c) :: (.int .i64 i) :: u2 :: u3 :: u4 :: u5 :: (.int .i64 j3) :: u7 :: u8 :: u9 :: u10 :: u11 :: u12 :: u13 :: u14 :: u15 :: u16 :: u17 :: u18 :: u19 :: u20 :: u21 :: u22 :: u23 :: u24 :: u25 :: u26 :: u27 :: u28 :: u29 :: u30 :: u31 :: u32 :: u33 :: u34 :: u35 :: u36 :: u37 :: u38 :: u39 :: u40 :: u41 :: u42 :: u43 :: u44 :: u45 :: u46 :: u47 :: u48 :: u49 :: u50 :: u51 :: u52 :: u53 :: u54 :: u55 :: u56 :: u57 :: u58 :: u59 :: u60 :: u61 :: u62 :: u63 :: u64 :: u65 :: u66 :: u67 :: u68 :: u69 :: u70 :: u71 :: u72 :: u73 :: u74 :: u75 :: u76 :: u77 :: u78 :: u79 :: u80 :: u81 :: u82 :: u83 :: u84 :: u85 :: u86 :: u87 :: u88 :: u89 :: u90 :: u91 :: u92 :: u93 :: u94 :: u95 :: u96 :: u97 :: u98 :: u99 :: u100 :: u101 :: u102 :: u103 :: u104 :: u105 :: u106 :: u107 :: u108 :: u109 :: u110 :: u111 :: u112 :: u113 :: u114 :: u115 :: u116 :: u117 :: u118 :: u119 :: u120 :: u121 :: u122 :: u123 :: u124 :: u125 :: u126 :: u127 :: u128 :: u129 :: u130 :: u131 :: u132 :: u133 :: u134 :: u135 :: u136 :: u137 :: u138 :: u139 :: u140 :: u141 :: u142 :: u143 :: u144 :: u145 :: u146 :: u147 :: u148 :: u149 :: u150 :: u151 :: u152 :: u153 :: u154 :: u155 :: u156 :: u157 :: u158 :: u159 :: u160 :: []), []⟩ w := by
  obtain ⟨c0, c1, c2, c3, c4, c5, ht⟩ := htail
  unfold Try.f23 at ht
  simp only [Option.some.injEq, Code.seq.injEq] at ht
  obtain ⟨_, _, _, _, _, _, rfl⟩ := ht
  have l2 := hj3.2.1
  go_upto_region 18 with fail
  go_cut [112] (fun t wx => wx = w ∧ ∃ T : Bool, t = .bool T ∧ (T = true → j3 < n ∧ (f j3 = 101 ∨ f j3 = 69)))
  case first =>
    by_cases hlt : j3 < n
    · have hc1 := h.cell j3 hlt
      have g0 : (0 : Int) ≤ (j3 : Int) := by omega
      have g1 : (j3 : Int) < (n : Int) := by omega
      by_cases c1 : f j3 = 101
      · have t1 : ((f j3 : Int) == 101) = true := eqt (k := 101) c1
        go_wp2_with fail
        go_meet
        exact ⟨rfl, _, rfl, fun _ => ⟨hlt, .inl c1⟩⟩
      · have t1 : ((f j3 : Int) == 101) = false := eqf (k := 101) c1
        go_wp2_with fail
        go_meet
        exact ⟨rfl, _, rfl, fun e => ⟨hlt, .inr (by have := beq_iff_eq.1 e; omega)⟩⟩
    · have hd : decide ((j3 : Int) < (n : Int)) = false := by simp; omega
      go_wp2_with fail
      go_meet
      exact ⟨rfl, _, rfl, fun e => by cases e⟩
  case rest =>
    obtain ⟨hwc, T, rfl, hT⟩ := hcut
    subst wc
    go_upto_if 112 with fail
    go_cut [6] (fun t wx => wx = w ∧ ∃ j : Nat, t = .int .i64 j ∧ i < j ∧ Nm f n i j)
    case first =>
      cases T with
      | true =>
        obtain ⟨hlt, cE⟩ := hT rfl
        have hs0 : Nm f n i (j3 + 1) := hj3.step hlt (by unfold J.Sc J.Inert J.Delim J.Ws; omega)
        clear cE hT
        by_cases hlt1 : j3 + 1 < n
        · have hc1 := h.cell (j3 + 1) hlt1
          have y0 : (0 : Int) ≤ ((j3 + 1 : Nat) : Int) := by omega
          have y1 : ((j3 + 1 : Nat) : Int) < (n : Int) := by omega
          by_cases c1 : f (j3 + 1) = 43
          · have t1 : ((f (j3 + 1) : Int) == 43) = true := eqt (k := 43) c1
            have hs : Nm f n i (j3 + 1 + 1) := hs0.step hlt1 (by rw [c1]; unfold J.Sc J.Inert J.Delim J.Ws; omega)
            clear c1 hs0
            by_cases hx : j3 + 1 + 1 < n
            · have hcx := h.cell (j3 + 1 + 1) hx
              have x0 : (0 : Int) ≤ ((j3 + 1 + 1 : Nat) : Int) := by omega
              have x1 : ((j3 + 1 + 1 : Nat) : Int) < (n : Int) := by omega
              by_cases hdx : J.Digit (f (j3 + 1 + 1))
              · go_wp2_with (go_at_call 22; refine (isDigit_yes _ _ hdx).mono ?_; rintro e w' ⟨rfl, hw'⟩; subst w')
                go_loop [6] (fun t => ∃ q : Nat, t = .int .i64 q ∧ i < q ∧ Nm f n i q) (fun t => n - (intOf t).toNat)
                case atStart => exact ⟨j3 + 1 + 1, by go_num, by omega, hs⟩
                case round =>
                  obtain ⟨q, rfl, q1, hq⟩ := hrel
                  have l3 := hq.2.1
                  by_cases hql : q < n
                  · have hcq := h.cell q hql
                    have k0 : (0 : Int) ≤ (q : Int) := by omega
                    have k1 : (q : Int) < (n : Int) := by omega
                    by_cases hd : J.Digit (f q)
                    · go_wp2_with (go_at_call 22; refine (isDigit_yes _ _ hd).mono ?_; rintro e w' ⟨rfl, hw'⟩; subst w')
                      go_round
                      case rel => exact ⟨q + 1, by go_num, by omega, hq.step hql (sc_digit hd)⟩
                      case measure => simp [intOf]; omega
                    · go_wp2_with (go_at_call 22; refine (isDigit_no _ _ hd).mono ?_; rintro e w' ⟨rfl, hw'⟩; subst w')
                      go_meet
                      exact ⟨rfl, q, rfl, q1, hq⟩
                  · have hqd : decide ((q : Int) < (n : Int)) = false := by simp; omega
                    go_wp2_with fail
                    go_meet
                    exact ⟨rfl, q, rfl, q1, hq⟩
              · go_wp2_with (go_at_call 22; refine (isDigit_no _ _ hdx).mono ?_; rintro e w' ⟨rfl, hw'⟩; subst w')
                go_ret2
                exact .inr ⟨rfl, rfl⟩
            · have hd : decide ((n : Int) ≤ ((j3 + 1 + 1 : Nat) : Int)) = true := by simp; omega
              go_wp2_with fail
              go_ret2
              exact .inr ⟨rfl, rfl⟩
          · have t1 : ((f (j3 + 1) : Int) == 43) = false := eqf (k := 43) c1
            by_cases c2 : f (j3 + 1) = 45
            · have t2 : ((f (j3 + 1) : Int) == 45) = true := eqt (k := 45) c2
              have hs : Nm f n i (j3 + 1 + 1) := hs0.step hlt1 (by rw [c2]; unfold J.Sc J.Inert J.Delim J.Ws; omega)
              clear c1 c2 hs0
              by_cases hx : j3 + 1 + 1 < n
              · have hcx := h.cell (j3 + 1 + 1) hx
                have x0 : (0 : Int) ≤ ((j3 + 1 + 1 : Nat) : Int) := by omega
                have x1 : ((j3 + 1 + 1 : Nat) : Int) < (n : Int) := by omega
                by_cases hdx : J.Digit (f (j3 + 1 + 1))
                · go_wp2_with (go_at_call 22; refine (isDigit_yes _ _ hdx).mono ?_; rintro e w' ⟨rfl, hw'⟩; subst w')
                  go_loop [6] (fun t => ∃ q : Nat, t = .int .i64 q ∧ i < q ∧ Nm f n i q) (fun t => n - (intOf t).toNat)
                  case atStart => exact ⟨j3 + 1 + 1, by go_num, by omega, hs⟩
                  case round =>
                    obtain ⟨q, rfl, q1, hq⟩ := hrel
                    have l3 := hq.2.1
                    by_cases hql : q < n
                    · have hcq := h.cell q hql
                      have k0 : (0 : Int) ≤ (q : Int) := by omega
                      have k1 : (q : Int) < (n : Int) := by omega
                      by_cases hd : J.Digit (f q)
                      · go_wp2_with (go_at_call 22; refine (isDigit_yes _ _ hd).mono ?_; rintro e w' ⟨rfl, hw'⟩; subst w')
                        go_round
                        case rel => exact ⟨q + 1, by go_num, by omega, hq.step hql (sc_digit hd)⟩
                        case measure => simp [intOf]; omega
                      · go_wp2_with (go_at_call 22; refine (isDigit_no _ _ hd).mono ?_; rintro e w' ⟨rfl, hw'⟩; subst w')
                        go_meet
                        exact ⟨rfl, q, rfl, q1, hq⟩
                    · have hqd : decide ((q : Int) < (n : Int)) = false := by simp; omega
                      go_wp2_with fail
                      go_meet
                      exact ⟨rfl, q, rfl, q1, hq⟩
                · go_wp2_with (go_at_call 22; refine (isDigit_no _ _ hdx).mono ?_; rintro e w' ⟨rfl, hw'⟩; subst w')
                  go_ret2
                  exact .inr ⟨rfl, rfl⟩
              · have hd : decide ((n : Int) ≤ ((j3 + 1 + 1 : Nat) : Int)) = true := by simp; omega
                go_wp2_with fail
                go_ret2
                exact .inr ⟨rfl, rfl⟩
            · have t2 : ((f (j3 + 1) : Int) == 45) = false := eqf (k := 45) c2
              have hs := hs0
              clear c1 c2 hs0
              by_cases hx : j3 + 1 < n
              · have hcx := h.cell (j3 + 1) hx
                have x0 : (0 : Int) ≤ ((j3 + 1 : Nat) : Int) := by omega
                have x1 : ((j3 + 1 : Nat) : Int) < (n : Int) := by omega
                by_cases hdx : J.Digit (f (j3 + 1))
                · go_wp2_with (go_at_call 22; refine (isDigit_yes _ _ hdx).mono ?_; rintro e w' ⟨rfl, hw'⟩; subst w')
                  go_loop [6] (fun t => ∃ q : Nat, t = .int .i64 q ∧ i < q ∧ Nm f n i q) (fun t => n - (intOf t).toNat)
                  case atStart => exact ⟨j3 + 1, by go_num, by omega, hs⟩
                  case round =>
                    obtain ⟨q, rfl, q1, hq⟩ := hrel
                    have l3 := hq.2.1
                    by_cases hql : q < n
                    · have hcq := h.cell q hql
                      have k0 : (0 : Int) ≤ (q : Int) := by omega
                      have k1 : (q : Int) < (n : Int) := by omega
                      by_cases hd : J.Digit (f q)
                      · go_wp2_with (go_at_call 22; refine (isDigit_yes _ _ hd).mono ?_; rintro e w' ⟨rfl, hw'⟩; subst w')
                        go_round
                        case rel => exact ⟨q + 1, by go_num, by omega, hq.step hql (sc_digit hd)⟩
                        case measure => simp [intOf]; omega
                      · go_wp2_with (go_at_call 22; refine (isDigit_no _ _ hd).mono ?_; rintro e w' ⟨rfl, hw'⟩; subst w')
                        go_meet
                        exact ⟨rfl, q, rfl, q1, hq⟩
                    · have hqd : decide ((q : Int) < (n : Int)) = false := by simp; omega
                      go_wp2_with fail
                      go_meet
                      exact ⟨rfl, q, rfl, q1, hq⟩
                · go_wp2_with (go_at_call 22; refine (isDigit_no _ _ hdx).mono ?_; rintro e w' ⟨rfl, hw'⟩; subst w')
                  go_ret2
                  exact .inr ⟨rfl, rfl⟩
              · exact absurd hlt1 hx
        · have hd : decide (((j3 + 1 : Nat) : Int) < (n : Int)) = false := by simp; omega
          have hd2 : decide ((n : Int) ≤ ((j3 + 1 : Nat) : Int)) = true := by simp; omega
          go_wp2_with fail
          go_ret2
          exact .inr ⟨rfl, rfl⟩
      | false =>
        go_wp2_with fail
        go_meet
        exact ⟨rfl, j3, rfl, hij3, hj3⟩
    case rest =>
      obtain ⟨hwc, j5, rfl, hij5, hj5⟩ := hcut
      subst wc
      go_wp2_with fail
      go_ret2
      exact .inl ⟨j5, rfl, rfl, hij5, hj5⟩
end Go.Proofs.Qxb6601357a
