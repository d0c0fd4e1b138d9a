/-
  mNumber's FRACTION, AND WHAT FOLLOWS.
-/
import Derived.Test.Qxb6601357aNumExp
namespace Go.Proofs.Qxb6601357a
open Go.RowKit
set_option maxRecDepth 100000 in
set_option maxHeartbeats 3200000 in
theorem num_frac {tail : Code} (htail : ∃ c0 c1 c2 c3 c4, Try.f23.body = some (.seq c0 (.seq c1 (.seq c2 (.seq c3 (.seq c4 tail)))))) (b off n c : Nat) (f : Nat → Nat) (i j2 : Nat) (w : World) (hn : n ≤ 1048576) (h : Has w b off n f) (hij : i < j2) (hj2 : Nm f n i j2)
    {u2 u3 u4 u5 u7 u8 u9 u10 u11 u12 u13 u14 u15 u16 u17 u18 u19 u20 u21 u22 u23 u24 u25 u26 u27 u28 u29 u30 u31 u32 u33 u34 u35 u36 u37 u38 u39 u40 u41 u42 u43 u44 u45 u46 u47 u48 u49 u50 u51 u52 u53 u54 u55 u56 u57 u58 u59 u60 u61 u62 u63 u64 u65 u66 u67 u68 u69 u70 u71 u72 u73 u74 u75 u76 u77 u78 u79 u80 u81 u82 u83 u84 u85 u86 u87 u88 u89 u90 u91 u92 u93 u94 u95 u96 u97 u98 u99 u100 u101 u102 u103 u104 u105 u106 u107 u108 u109 u110 u111 u112 u113 u114 u115 u116 u117 u118 u119 u120 u121 u122 u123 u124 u125 u126 u127 u128 u129 u130 u131 u132 u133 u134 u135 u136 u137 u138 u139 u140 u141 u142 u143 u144 u145 u146 u147 u148 u149 u150 u151 u152 u153 u154 u155 u156 u157 u158 u159 u160 : Value} :
    Code.wp Try.prog tail (bodyPost Try.prog Try.f23 (MN f n i w)) ⟨List.toArray ((.slice (some ⟨b, off, none⟩) n c) :: (.int .i64 i) :: u2 :: u3 :: u4 :: u5 :: (.int .i64 j2) :: u7 :: u8 :: u9 :: u10 :: u11 :: u12 :: u13 :: u14 :: u15 :: u16 :: u17 :: u18 :: u19 :: u20 :: u21 :: u22 :: u23 :: u24 :: u25 :: u26 :: u27 :: u28 :: u29 :: u30 :: u31 :: u32 :: u33 :: u34 :: u35 :: u36 :: u37 :: u38 :: u39 :: u40 :: u41 :: u42 :: u43 :: u44 :: u45 :: u46 :: u47 :: u48 :: u49 :: u50 :: u51 :: u52 :: u53 :: u54 :: u55 :: u56 :: u57 :: u58 :: u59 :: u60 :: u61 :: u62 :: u63 :: u64 :: u65 :: u66 :: u67 :: u68 :: u69 :: u70 :: u71 :: u72 :: u73 :: u74 :: u75 :: u76 :: u77 :: u78 :: u79 :: u80 :: u81 :: u82 :: u83 :: u84 :: u85 :: u86 :: u87 :: u88 :: u89 :: u90 :: u91 :: u92 :: u93 :: u94 :: u95 :: u96 :: u97 :: u98 :: u99 :: u100 :: u101 :: u102 :: u103 :: u104 :: u105 :: u106 :: u107 :: u108 :: u109 :: u110 :: u111 :: u112 :: u113 :: u114 :: u115 :: u116 :: u117 :: u118 :: u119 :: u120 :: u121 :: u122 :: u123 :: u124 :: u125 :: u126 :: u127 :: u128 :: u129 :: u130 :: u131 :: u132 :: u133 :: u134 :: u135 :: u136 :: u137 :: u138 :: u139 :: u140 :: u141 :: u142 :: u143 :: u144 :: u145 :: u146 :: u147 :: u148 :: u149 :: u150 :: u151 :: u152 :: u153 :: u154 :: u155 :: u156 :: u157 :: u158 :: u159 :: u160 :: []), []⟩ w := by
  obtain ⟨c0, c1, c2, c3, c4, ht⟩ := htail
  unfold Try.f23 at ht
  simp only [Option.some.injEq, Code.seq.injEq] at ht
  obtain ⟨_, _, _, _, _, rfl⟩ := ht
  have l2 := hj2.2.1
  go_upto_region 12 with fail
  go_cut [67] (fun t wx => wx = w ∧ ∃ T : Bool, t = .bool T ∧ (T = true → j2 < n ∧ f j2 = 46))
  case first =>
    by_cases hlt : j2 < n
    · have hc1 := h.cell j2 hlt
      have g0 : (0 : Int) ≤ (j2 : Int) := by omega
      have g1 : (j2 : Int) < (n : Int) := by omega
      go_wp2_with fail
      go_meet
      exact ⟨rfl, _, rfl, fun e => ⟨hlt, by have := beq_iff_eq.1 e; omega⟩⟩
    · have hd : decide ((j2 : Int) < (n : Int)) = false := by simp; omega
      go_wp2_with fail
      go_meet
      exact ⟨rfl, _, rfl, fun e => by cases e⟩
  case rest =>
    obtain ⟨hwc, T, rfl, hT⟩ := hcut
    subst wc
    go_upto_if 67 with fail
    go_cut [6] (fun t wx => wx = w ∧ ∃ j : Nat, t = .int .i64 j ∧ i < j ∧ Nm f n i j)
    case first =>
      cases T with
      | true =>
        obtain ⟨hlt, c46⟩ := hT rfl
        have hs : Nm f n i (j2 + 1) := hj2.step hlt (by rw [c46]; unfold J.Sc J.Inert J.Delim J.Ws; omega)
        clear c46 hT
        by_cases hx : j2 + 1 < n
        · have hcx := h.cell (j2 + 1) hx
          have x0 : (0 : Int) ≤ ((j2 + 1 : Nat) : Int) := by omega
          have x1 : ((j2 + 1 : Nat) : Int) < (n : Int) := by omega
          by_cases hdx : J.Digit (f (j2 + 1))
          · go_wp2_with (go_at_call 22; refine (isDigit_yes _ _ hdx).mono ?_; rintro e w' ⟨rfl, hw'⟩; subst w')
            go_loop [6] (fun t => ∃ q : Nat, t = .int .i64 q ∧ i < q ∧ Nm f n i q) (fun t => n - (intOf t).toNat)
            case atStart => exact ⟨j2 + 1, by go_num, by omega, hs⟩
            case round =>
              obtain ⟨q, rfl, q1, hq⟩ := hrel
              have l3 := hq.2.1
              by_cases hql : q < n
              · have hcq := h.cell q hql
                have k0 : (0 : Int) ≤ (q : Int) := by omega
                have k1 : (q : Int) < (n : Int) := by omega
                by_cases hd : J.Digit (f q)
                · go_wp2_with (go_at_call 22; refine (isDigit_yes _ _ hd).mono ?_; rintro e w' ⟨rfl, hw'⟩; subst w')
                  go_round
                  case rel => exact ⟨q + 1, by go_num, by omega, hq.step hql (sc_digit hd)⟩
                  case measure => simp [intOf]; omega
                · go_wp2_with (go_at_call 22; refine (isDigit_no _ _ hd).mono ?_; rintro e w' ⟨rfl, hw'⟩; subst w')
                  go_meet
                  exact ⟨rfl, q, rfl, q1, hq⟩
              · have hqd : decide ((q : Int) < (n : Int)) = false := by simp; omega
                go_wp2_with fail
                go_meet
                exact ⟨rfl, q, rfl, q1, hq⟩
          · go_wp2_with (go_at_call 22; refine (isDigit_no _ _ hdx).mono ?_; rintro e w' ⟨rfl, hw'⟩; subst w')
            go_ret2
            exact .inr ⟨rfl, rfl⟩
        · have hd : decide ((n : Int) ≤ ((j2 + 1 : Nat) : Int)) = true := by simp; omega
          go_wp2_with fail
          go_ret2
          exact .inr ⟨rfl, rfl⟩
      | false =>
        go_wp2_with fail
        go_meet
        exact ⟨rfl, j2, rfl, hij, hj2⟩
    case rest =>
      obtain ⟨hwc, j3, rfl, hij3, hj3⟩ := hcut
      subst wc
      go_step
      exact num_exp ⟨_, _, _, _, _, _, rfl⟩ b off n c f i j3 w hn h hij3 hj3
end Go.Proofs.Qxb6601357a
