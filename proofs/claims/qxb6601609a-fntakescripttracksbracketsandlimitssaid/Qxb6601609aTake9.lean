import Derived.Test.Qxb6601609aTakeP
namespace Go.Proofs.Qxb6601609a
open Go.RowKit
set_option linter.unusedVariables false

set_option maxRecDepth 100000 in
set_option maxHeartbeats 3200000 in
theorem take9 {tail : Code} (htail : ∃ c0 c1 c2 c3 c4 c5 op c6 c8 c9, Try.f30.body = some (.seq c0 (.seq c1 (.seq c2 (.seq c3 (.seq (.seq c4 (.seq c5 (.cond op (.seq c6 (.seq c8 tail)) .skip))) c9))))))
    (G lo Bk sb so tl tc : Nat) (sv ov : Value) (N : Nat) (cl : Nat → Nat) (bd : Nat → Bool) (BF : Bool) (f : Nat → Nat) (s : Nat) (m b d mf : Int) (w0 w : World) (hN : N ≤ 4096) (hN1 : N ≠ 100)
    (hBk : w.heap[Bk]? = some (.cells #[.int .u8 (cof (f s)), .bool BF] 47 (0, 0))) (hGB : G < Bk) (hns : NS w G sv ov m b d (-1) (-1)) (hown : w.ownsRow lo 47 2 ov N (brs cl bd N)) (hgo : ∀ g, ov.ownBlock = some g → g < G) (hG : lo ≤ G) (hb : Below lo w0 w)
    (hBF : BF = true → f s = 123 ∧ b = N) (htl : (0 : Int) < (tl : Int)) (hc : w.cell? ⟨sb, so, none⟩ = some (.int .u8 (f s)))
    (K : Act → World → Prop)
    {u1 u2 u3 u4 u5 u6 u7 u9 u11 u13 u14 u15 u16 u17 u18 u19 u20 u21 u22 u23 u24 u25 u26 u27 u28 u29 u30 u31 u32 u33 u34 u35 u36 u37 u38 u39 u40 u41 u42 u43 u44 u45 u46 u47 u48 u49 u50 u51 u52 u53 u54 u55 u56 u57 u58 u59 u60 u61 u62 u63 u64 u65 u66 u67 u68 u69 u70 u71 u72 u73 u74 u75 u76 u77 u78 u79 u80 u81 u82 u83 u84 u85 u86 u87 u88 u89 u90 u91 u92 u93 u94 u95 u96 u97 u98 u99 u100 u101 u102 u103 u104 u105 u106 u107 u108 u109 u110 u111 u112 u113 u114 u115 u116 u117 u118 u119 u120 u121 u122 u123 u124 u125 u126 u127 u128 u129 u130 u131 u132 u133 u134 u135 u136 u137 u138 u139 u140 u141 u142 u143 u144 u145 u146 u147 u148 u149 u150 u151 u152 u153 u154 u155 u156 u157 u158 u159 u160 u161 u162 u163 u164 u165 u166 u167 u168 u169 u170 u171 u172 u173 u174 u175 u176 u177 u178 u179 u180 u181 u182 u183 u184 u185 u186 u187 u188 u189 u190 u191 u192 u193 u194 u195 u196 u197 u198 u199 u200 u201 u202 u203 u204 u205 u206 u207 u208 u209 u210 u211 u212 u213 u214 u215 u216 u217 u218 u219 u220 u221 u222 u223 u224 u225 u226 u227 u228 u229 u230 u231 u232 u233 u234 u235 u236 u237 u238 : Value} :
    Code.wp Try.prog tail (Exit.then K (bodyPost Try.prog Try.f30 (TU G lo sv (OpenSpec f s N cl bd m b d mf) w0))) ⟨List.toArray ((.pointer (some ⟨G, 0, none⟩)) :: u1 :: u2 :: u3 :: u4 :: u5 :: u6 :: u7 :: (.slice (some ⟨sb, so, none⟩) tl tc) :: u9 :: (.int .i64 mf) :: u11 :: (.pointer (some ⟨Bk, 0, none⟩)) :: u13 :: u14 :: u15 :: u16 :: u17 :: u18 :: u19 :: u20 :: u21 :: u22 :: u23 :: u24 :: u25 :: u26 :: u27 :: u28 :: u29 :: u30 :: u31 :: u32 :: u33 :: u34 :: u35 :: u36 :: u37 :: u38 :: u39 :: u40 :: u41 :: u42 :: u43 :: u44 :: u45 :: u46 :: u47 :: u48 :: u49 :: u50 :: u51 :: u52 :: u53 :: u54 :: u55 :: u56 :: u57 :: u58 :: u59 :: u60 :: u61 :: u62 :: u63 :: u64 :: u65 :: u66 :: u67 :: u68 :: u69 :: u70 :: u71 :: u72 :: u73 :: u74 :: u75 :: u76 :: u77 :: u78 :: u79 :: u80 :: u81 :: u82 :: u83 :: u84 :: u85 :: u86 :: u87 :: u88 :: u89 :: u90 :: u91 :: u92 :: u93 :: u94 :: u95 :: u96 :: u97 :: u98 :: u99 :: u100 :: u101 :: u102 :: u103 :: u104 :: u105 :: u106 :: u107 :: u108 :: u109 :: u110 :: u111 :: u112 :: u113 :: u114 :: u115 :: u116 :: u117 :: u118 :: u119 :: u120 :: u121 :: u122 :: u123 :: u124 :: u125 :: u126 :: u127 :: u128 :: u129 :: u130 :: u131 :: u132 :: u133 :: u134 :: u135 :: u136 :: u137 :: u138 :: u139 :: u140 :: u141 :: u142 :: u143 :: u144 :: u145 :: u146 :: u147 :: u148 :: u149 :: u150 :: u151 :: u152 :: u153 :: u154 :: u155 :: u156 :: u157 :: u158 :: u159 :: u160 :: u161 :: u162 :: u163 :: u164 :: u165 :: u166 :: u167 :: u168 :: u169 :: u170 :: u171 :: u172 :: u173 :: u174 :: u175 :: u176 :: u177 :: u178 :: u179 :: u180 :: u181 :: u182 :: u183 :: u184 :: u185 :: u186 :: u187 :: u188 :: u189 :: u190 :: u191 :: u192 :: u193 :: u194 :: u195 :: u196 :: u197 :: u198 :: u199 :: u200 :: u201 :: u202 :: u203 :: u204 :: u205 :: u206 :: u207 :: u208 :: u209 :: u210 :: u211 :: u212 :: u213 :: u214 :: u215 :: u216 :: u217 :: u218 :: u219 :: u220 :: u221 :: u222 :: u223 :: u224 :: u225 :: u226 :: u227 :: u228 :: u229 :: u230 :: u231 :: u232 :: u233 :: u234 :: u235 :: u236 :: u237 :: u238 :: []), []⟩ w := by
  obtain ⟨c0, c1, c2, c3, c4, c5, op, c6, c8, c9, ht⟩ := htail
  unfold Try.f30 at ht
  simp only [Option.some.injEq, Code.seq.injEq, Code.cond.injEq] at ht
  obtain ⟨-, -, -, -, ⟨-, -, -, ⟨-, -, rfl⟩, -⟩, -⟩ := ht
  have HN : Hid (N ≠ 100) := hN1
  clear hN1
  have lG := hns.lt
  have lBk : Bk < w.heap.size := (Array.getElem?_eq_some_iff.1 hBk).1
  have d2 := hns.c2
  have d4 := hns.c4
  have x1 : w.cell? ⟨Bk, 1, none⟩ = some (.bool BF) := by simp [World.cell?, hBk]
  by_cases hm : m = 31
  · have HM : Hid (m = 31) := hm
    have tm : (m == 31) = true := by simp [hm]
    clear hm
    cases BF with
    | true =>
      have HBF : Hid (f s = 123 ∧ b = N) := hBF rfl
      clear hBF
      go_wp2_with fail
      go_ret2
      refine ⟨⟨N, cl, bd, m, b, d, -1, -1, d, some (⟨#[109, 101, 115, 115, 97, 103, 101, 32, 110, 101, 115, 116, 105, 110, 103]⟩, 32, 31)⟩, ov, _, .inr (.inl ⟨HN.out, rfl, HM.out, rfl, .inl ⟨HBF.out.1, HBF.out.2, rfl⟩⟩), rfl, hown.alloc _, hns.alloc _, hb.alloc (by omega) _, ⟨_, rfl, heap_alloc_new w _⟩⟩
    | false =>
      clear hBF
      by_cases h0 : 0 ≤ mf
      · have H0 : Hid (0 ≤ mf) := h0
        have t0 : decide (0 ≤ mf) = true := decide_eq_true h0
        clear h0
        by_cases h6 : f s = 60
        · have t6 : ((f s : Int) == 60) = true := by simp [h6]
          clear h6
          go_wp2_with fail
          go_ret2
          refine ⟨⟨N, cl, bd, m, b, d, -1, -1, mf, some (⟨#[109, 101, 115, 115, 97, 103, 101, 32, 110, 101, 115, 116, 105, 110, 103]⟩, 32, 31)⟩, ov, _, .inr (.inl ⟨HN.out, rfl, HM.out, rfl, .inr ⟨H0.out, rfl⟩⟩), rfl, hown.alloc _, hns.alloc _, hb.alloc (by omega) _, ⟨_, rfl, heap_alloc_new w _⟩⟩
        · have t6 : ((f s : Int) == 60) = false := by simp; omega
          clear h6
          go_upto_if 79 with fail
          go_cut [] (fun wx => wx = w)
          case first =>
            go_wp2_with fail
            go_meet
            rfl
          case rest =>
          have hw := hcut
          subst wc
          go_step
          exact takeP ⟨_, _, _, _, _, _, _, _, _, _, _, rfl⟩ G lo Bk sv ov N cl bd false f s m b d mf w0 _ hN HN.out hBk hGB hns hown hgo hG hb (fun e => by cases e) _
      · have t0 : decide (0 ≤ mf) = false := decide_eq_false h0
        clear h0
        go_upto_if 79 with fail
        go_cut [] (fun wx => wx = w)
        case first =>
          go_wp2_with fail
          go_meet
          rfl
        case rest =>
        have hw := hcut
        subst wc
        go_step
        exact takeP ⟨_, _, _, _, _, _, _, _, _, _, _, rfl⟩ G lo Bk sv ov N cl bd false f s m b d mf w0 _ hN HN.out hBk hGB hns hown hgo hG hb (fun e => by cases e) _
  · have HM : Hid (m ≠ 31) := hm
    have tm : (m == 31) = false := by simp [hm]
    clear hm
    cases BF with
    | true =>
      have HBF : Hid (f s = 123 ∧ b = N) := hBF rfl
      clear hBF
      go_upto_if 79 with fail
      go_cut [] (fun wx => wx = w)
      case first =>
        go_wp2_with fail
        go_meet
        rfl
      case rest =>
      have hw := hcut
      subst wc
      go_step
      exact takeP ⟨_, _, _, _, _, _, _, _, _, _, _, rfl⟩ G lo Bk sv ov N cl bd true f s m b d mf w0 _ hN HN.out hBk hGB hns hown hgo hG hb (fun _ => ⟨HBF.out.1, HM.out⟩) _
    | false =>
      clear hBF
      by_cases h0 : 0 ≤ mf
      · have H0 : Hid (0 ≤ mf) := h0
        have t0 : decide (0 ≤ mf) = true := decide_eq_true h0
        clear h0
        by_cases h6 : f s = 60
        · have t6 : ((f s : Int) == 60) = true := by simp [h6]
          clear h6
          go_upto_if 79 with fail
          go_cut [] (fun wx => wx = w)
          case first =>
            go_wp2_with fail
            go_meet
            rfl
          case rest =>
          have hw := hcut
          subst wc
          go_step
          exact takeP ⟨_, _, _, _, _, _, _, _, _, _, _, rfl⟩ G lo Bk sv ov N cl bd false f s m b d mf w0 _ hN HN.out hBk hGB hns hown hgo hG hb (fun e => by cases e) _
        · have t6 : ((f s : Int) == 60) = false := by simp; omega
          clear h6
          go_upto_if 79 with fail
          go_cut [] (fun wx => wx = w)
          case first =>
            go_wp2_with fail
            go_meet
            rfl
          case rest =>
          have hw := hcut
          subst wc
          go_step
          exact takeP ⟨_, _, _, _, _, _, _, _, _, _, _, rfl⟩ G lo Bk sv ov N cl bd false f s m b d mf w0 _ hN HN.out hBk hGB hns hown hgo hG hb (fun e => by cases e) _
      · have t0 : decide (0 ≤ mf) = false := decide_eq_false h0
        clear h0
        go_upto_if 79 with fail
        go_cut [] (fun wx => wx = w)
        case first =>
          go_wp2_with fail
          go_meet
          rfl
        case rest =>
        have hw := hcut
        subst wc
        go_step
        exact takeP ⟨_, _, _, _, _, _, _, _, _, _, _, rfl⟩ G lo Bk sv ov N cl bd false f s m b d mf w0 _ hN HN.out hBk hGB hns hown hgo hG hb (fun e => by cases e) _
    
end Go.Proofs.Qxb6601609a
