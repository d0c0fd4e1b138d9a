import Derived.Test.Qxb6601609aNonTailB
namespace Go.Proofs.Qxb6601609a
open Go.RowKit
set_option linter.unusedVariables false

set_option maxRecDepth 100000 in
set_option maxHeartbeats 3200000 in
theorem non_tailA {tail : Code} (htail : ∃ c0 c1 c2 c3 c4 c5 c6 c7 c8 c9 c10 c11 c12, Try.f7.body = some (.seq c0 (.seq c1 (.seq c2 (.seq c3 (.seq c4 (.seq c5 (.seq c6 (.seq c7 (.seq c8 (.seq c9 (.seq c10 (.seq c11 (.seq c12 tail)))))))))))))) (sb soff sn sc s e N M cc bc B0 : Nat) (ca ba tc tb : Option Addr) (f : Nat → Nat) (cl : Nat → Nat) (bd : Nat → Bool) (m b d k m2 b2 d2 k2 f2 : Int) (w0 w : World) (hse : s < e) (hen : e ≤ sn) (hnc : sn ≤ sc) (hsn : sn ≤ 65536) (hN : N ≤ 4096) (hf : ∀ i, f i < 256)
    (h : Has w sb soff sn f) (hb : Below B0 w0 w)
    (hpop : (0 < N ∧ Closer (f s) ∧ cl (N - 1) = f s ∧ M = N - 1 ∧ m2 = if bd (N - 1) then wrap64 (m - 1) else m) ∨ (¬ (0 < N ∧ Closer (f s) ∧ cl (N - 1) = f s) ∧ M = N ∧ m2 = m))
    (hkey : (k2 = -1 ∧ f2 = -1) ∨ (k2 = s ∧ f2 = -1 ∧ MsgTok f s e) ∨ (k2 = -1 ∧ f2 = s ∧ MapTok f s e))
    (hbod : (b2 = b ∧ d2 = d) ∨ (b2 = -1 ∧ d2 = d ∧ ¬ Word (f s)) ∨ (0 ≤ k ∧ Word (f s) ∧ b2 = N ∧ d2 = k))
    (h1 : Rd w tc M (fun i => .int .u8 (cl i))) (h2 : Rd w tb M (fun i => .bool (bd i))) (h3 : Rd w ca N (fun i => .int .u8 (cl i))) (h4 : Rd w ba N (fun i => .bool (bd i)))
    {u7 u10 u11 u12 u13 u14 u15 u16 u17 u18 u19 u20 u31 u32 u33 u34 u35 u36 u37 u38 u39 u40 u41 u42 u43 u44 u45 u46 u47 u48 u49 u50 u51 u52 u53 u54 u55 u56 u57 u58 u59 u60 u61 u62 u63 u64 u65 u66 u67 u68 u69 u70 u71 u72 u73 u74 u75 u76 u77 u78 u79 u80 u81 u82 u83 u84 u85 u86 u87 u88 u89 u90 u91 u92 u93 u94 u95 u96 u97 u98 u99 u100 u101 u102 u103 u104 u105 u106 u107 u108 u109 u110 u111 u112 u113 u114 u115 u116 u117 u118 u119 u120 u121 u122 u123 u124 u125 u126 u127 u128 u129 u130 u131 u132 u133 u134 u135 u136 u137 u138 u139 u140 u141 u142 u143 u144 u145 u146 u147 u148 u149 u150 u151 u152 u153 u154 u155 u156 u157 u158 u159 u160 u161 u162 u163 u164 u165 u166 u167 u168 u169 u170 u171 u172 u173 u174 u175 u176 u177 u178 u179 u180 u181 u182 u183 u184 u185 u186 u187 u188 u189 u190 u191 u192 u193 u194 u195 u196 u197 u198 u199 u200 u201 u202 u203 u204 u205 u206 u207 u208 u209 u210 u211 u212 u213 u214 u215 u216 u217 u218 u219 u220 u221 u222 u223 u224 u225 u226 u227 u228 u229 u230 u231 u232 u233 u234 u235 u236 u237 u238 u239 u240 u241 u242 u243 : Value} :
    Code.wp Try.prog tail (bodyPost Try.prog Try.f7 fun e1 w' => e1 = .returned (.bool true) ∧ Below B0 w0 w') ⟨List.toArray ((.slice (some ⟨sb, soff, none⟩) sn sc) :: (.slice ca N cc) :: (.slice ba N bc) :: (.int .i64 m) :: (.int .i64 b) :: (.int .i64 d) :: (.int .i64 k) :: u7 :: (.int .i64 s) :: (.int .i64 e) :: u10 :: u11 :: u12 :: u13 :: u14 :: u15 :: u16 :: u17 :: u18 :: u19 :: u20 :: (.int .u8 (f s)) :: (.int .i64 0) :: (.pointer none) :: (.slice tc M M) :: (.slice tb M M) :: (.int .i64 m2) :: (.int .i64 b2) :: (.int .i64 d2) :: (.int .i64 k2) :: (.int .i64 f2) :: u31 :: u32 :: u33 :: u34 :: u35 :: u36 :: u37 :: u38 :: u39 :: u40 :: u41 :: u42 :: u43 :: u44 :: u45 :: u46 :: u47 :: u48 :: u49 :: u50 :: u51 :: u52 :: u53 :: u54 :: u55 :: u56 :: u57 :: u58 :: u59 :: u60 :: u61 :: u62 :: u63 :: u64 :: u65 :: u66 :: u67 :: u68 :: u69 :: u70 :: u71 :: u72 :: u73 :: u74 :: u75 :: u76 :: u77 :: u78 :: u79 :: u80 :: u81 :: u82 :: u83 :: u84 :: u85 :: u86 :: u87 :: u88 :: u89 :: u90 :: u91 :: u92 :: u93 :: u94 :: u95 :: u96 :: u97 :: u98 :: u99 :: u100 :: u101 :: u102 :: u103 :: u104 :: u105 :: u106 :: u107 :: u108 :: u109 :: u110 :: u111 :: u112 :: u113 :: u114 :: u115 :: u116 :: u117 :: u118 :: u119 :: u120 :: u121 :: u122 :: u123 :: u124 :: u125 :: u126 :: u127 :: u128 :: u129 :: u130 :: u131 :: u132 :: u133 :: u134 :: u135 :: u136 :: u137 :: u138 :: u139 :: u140 :: u141 :: u142 :: u143 :: u144 :: u145 :: u146 :: u147 :: u148 :: u149 :: u150 :: u151 :: u152 :: u153 :: u154 :: u155 :: u156 :: u157 :: u158 :: u159 :: u160 :: u161 :: u162 :: u163 :: u164 :: u165 :: u166 :: u167 :: u168 :: u169 :: u170 :: u171 :: u172 :: u173 :: u174 :: u175 :: u176 :: u177 :: u178 :: u179 :: u180 :: u181 :: u182 :: u183 :: u184 :: u185 :: u186 :: u187 :: u188 :: u189 :: u190 :: u191 :: u192 :: u193 :: u194 :: u195 :: u196 :: u197 :: u198 :: u199 :: u200 :: u201 :: u202 :: u203 :: u204 :: u205 :: u206 :: u207 :: u208 :: u209 :: u210 :: u211 :: u212 :: u213 :: u214 :: u215 :: u216 :: u217 :: u218 :: u219 :: u220 :: u221 :: u222 :: u223 :: u224 :: u225 :: u226 :: u227 :: u228 :: u229 :: u230 :: u231 :: u232 :: u233 :: u234 :: u235 :: u236 :: u237 :: u238 :: u239 :: u240 :: u241 :: u242 :: u243 :: []), []⟩ w := by
  obtain ⟨c0, c1, c2, c3, c4, c5, c6, c7, c8, c9, c10, c11, c12, ht⟩ := htail
  unfold Try.f7 at ht
  simp only [Option.some.injEq, Code.seq.injEq] at ht
  obtain ⟨_, _, _, _, _, _, _, _, _, _, _, _, _, rfl⟩ := ht
  have hMN : M ≤ N := by omega
  have HK : Hid ((k2 = -1 ∧ f2 = -1) ∨ (k2 = s ∧ f2 = -1 ∧ MsgTok f s e) ∨ (k2 = -1 ∧ f2 = s ∧ MapTok f s e)) := hkey
  have HB : Hid ((b2 = b ∧ d2 = d) ∨ (b2 = -1 ∧ d2 = d ∧ ¬ Word (f s)) ∨ (0 ≤ k ∧ Word (f s) ∧ b2 = N ∧ d2 = k)) := hbod
  have HP : Hid ((0 < N ∧ Closer (f s) ∧ cl (N - 1) = f s ∧ M = N - 1 ∧ m2 = if bd (N - 1) then wrap64 (m - 1) else m) ∨ (¬ (0 < N ∧ Closer (f s) ∧ cl (N - 1) = f s) ∧ M = N ∧ m2 = m)) := hpop
  clear hkey hbod hpop
  go_upto_region 23 with fail
  go_cut [32] (fun t wx => wx = w ∧ ∃ T : Bool, t = .bool T ∧ (T = true ↔ (0 < N ∧ Closer (f s) ∧ cl (N - 1) = f s)))
  case first =>
    by_cases hN0 : N = 0
    · have t0 : decide ((0 : Int) < (N : Int)) = false := decide_eq_false (by omega)
      have t0' : decide (0 < N) = false := decide_eq_false (by omega)
      have HN : Hid (N = 0) := hN0
      clear hN0
      go_wp2_with fail
      go_meet
      exact ⟨rfl, false, rfl, by have := HN.out; simp [this]⟩
    · have t0 : decide ((0 : Int) < (N : Int)) = true := decide_eq_true (by omega)
      have t0' : decide (0 < N) = true := decide_eq_true (by omega)
      by_cases hC : Closer (f s)
      · have HC : Hid (Closer (f s)) := hC
        obtain ⟨b3, o3, rfl, _, x3⟩ := h3.at_ (by omega)
        have y3 := x3 (N - 1) (by omega)
        have g0 : (0 : Int) ≤ (N : Int) - 1 := by omega
        have g1 : (N : Int) - 1 < (N : Int) := by omega
        clear x3 hC
        go_wp2_with (go_at_call 20; refine (isCloser_yes _ _ HC.out).mono ?_; rintro e1 w' ⟨rfl, hw'⟩; subst w')
        go_meet
        refine ⟨rfl, _, rfl, ?_⟩
        have hN1 : 0 < N := by omega
        constructor
        · intro hx
          refine ⟨hN1, HC.out, ?_⟩
          have := beq_iff_eq.1 hx
          omega
        · rintro ⟨_, _, hx⟩
          rw [hx]
          simp
      · have HC : Hid (¬ Closer (f s)) := hC
        clear hC
        go_wp2_with (go_at_call 20; refine (isCloser_no _ _ HC.out).mono ?_; rintro e1 w' ⟨rfl, hw'⟩; subst w')
        go_meet
        exact ⟨rfl, false, rfl, ⟨fun e => by (cases e), fun hx => absurd hx.2.1 HC.out⟩⟩
  case rest =>
    obtain ⟨hwc, T, rfl, hT⟩ := hcut
    subst wc
    go_upto_if 134 with fail
    go_cut [33, 34] (fun x y wx => x = .int .i64 M ∧ y = .int .i64 m2 ∧ wx = w)
    case first =>
      cases T with
      | true =>
        have hP := hT.1 rfl
        rcases HP.out with ⟨p1, p2, p3, p4, p5⟩ | ⟨p1, _⟩
        · obtain ⟨b4, o4, rfl, _, x4⟩ := h4.at_ (by omega)
          have y4 := x4 (N - 1) (by omega)
          have g0 : (0 : Int) ≤ (N : Int) - 1 := by omega
          have g1 : (N : Int) - 1 < (N : Int) := by omega
          have P4 : Hid (M = N - 1) := p4
          have P5 : Hid (m2 = if bd (N - 1) then wrap64 (m - 1) else m) := p5
          clear x4 p1 p2 p3 p4 p5 hP hT
          cases hbt : bd (N - 1) with
          | true =>
            rw [hbt] at y4
            go_wp2_with fail
            go_meet
            refine ⟨?_, ?_, rfl⟩
            · rw [P4.out, show ((N - 1 : Nat) : Int) = (N : Int) - 1 by omega]
            · rw [P5.out, hbt, if_pos rfl]
          | false =>
            rw [hbt] at y4
            go_wp2_with fail
            go_meet
            refine ⟨?_, ?_, rfl⟩
            · rw [P4.out, show ((N - 1 : Nat) : Int) = (N : Int) - 1 by omega]
            · rw [P5.out, hbt, if_neg Bool.false_ne_true]
        · exact absurd hP p1
      | false =>
        have hP : ¬ (0 < N ∧ Closer (f s) ∧ cl (N - 1) = f s) := fun hx => by have := hT.2 hx; cases this
        rcases HP.out with ⟨p1, p2, p3, _⟩ | ⟨_, p4, p5⟩
        · exact absurd ⟨p1, p2, p3⟩ hP
        · have P4 : Hid (M = N) := p4
          have P5 : Hid (m2 = m) := p5
          clear p4 p5 hT hP
          go_wp2_with fail
          go_meet
          exact ⟨by rw [P4.out], by rw [P5.out], rfl⟩
    case rest =>
      obtain ⟨rfl, rfl, hwc⟩ := hcut
      subst wc
      have t1 : ((M : Int) != (M : Int)) = false := by simp
      have t2 : (m2 != m2) = false := by simp
      go_upto_if 163 with (go_at_call 23; refine (stackPrefix_yes tc tb ca ba M N M M cc bc cl bd _ hMN (by omega) h1 h2 h3 h4).mono ?_; rintro e1 w' ⟨rfl, dd, hw'⟩; subst w')
      go_cut [] (fun wx => Dr w wx)
      case first =>
        go_wp2_with fail
        go_meet
        exact (Dr.refl _).drewN _
      case rest =>
        obtain ⟨q, hwc⟩ := hcut
        subst wc
        go_step
        exact non_tailB ⟨_, _, _, _, _, _, _, _, _, _, _, _, _, _, _, _, _, _, _, _, _, _, rfl⟩ sb soff sn sc s e N B0 f b d k b2 d2 k2 f2 w0 (w.drewN q) hse hen hnc hsn hN hf (h.drewN q) (below_dr hb q) HK.out HB.out
end Go.Proofs.Qxb6601609a
