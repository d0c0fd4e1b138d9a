import Derived.Test.Qxb6601609aScriptPlain
namespace Go.Proofs.Qxb6601609a
open Go.RowKit
set_option linter.unusedVariables false

theorem us_read {w : World} {lo N : Nat} {ov : Value} {cl : Nat → Nat} (hown : w.ownsRow lo 5 1 ov N (us cl N)) :
    ∃ oa cap, ov = .slice oa N cap ∧ N ≤ cap ∧ (0 < N → ∃ g, oa = some ⟨g, 0, none⟩ ∧ lo ≤ g ∧ g < w.heap.size ∧ ∀ i, i < N → w.cell? ⟨g, i, none⟩ = some (.int .u8 (cl i))) := by
  have hown' := hown
  rcases hown.2 with ⟨e, e0⟩ | ⟨g, cap, cur, e, hg, hh, h1, h2, h3, h4⟩
  · subst e0; exact ⟨none, 0, e, Nat.le_refl _, fun h => absurd h (by omega)⟩
  · subst e
    refine ⟨_, cap, rfl, h1, fun _ => ⟨g, rfl, hg, (Array.getElem?_eq_some_iff.1 hh).1, fun i hi => ?_⟩⟩
    rw [hown'.cellAt i (by omega)]
    exact us_get cl hi

set_option maxRecDepth 100000 in
set_option maxHeartbeats 3200000 in
theorem ok2 {tail : Code} (htail : ∃ c0 c1 c2 c3 c4 c5 c6 c7 c8 c9 c10 c11 c12 c13 cA d0 d1 d2 d3 d4 d5 e0 e1 cR cEnd, Try.f6.body = some (.seq c0 (.seq c1 (.seq c2 (.seq c3 (.seq c4 (.seq c5 (.seq c6 (.seq c7 (.seq c8 (.seq c9 (.seq c10 (.seq c11 (.seq c12 (.seq (.seq c13 (.block 2 (.loop (.seq cA (.seq (.block 3 (.seq d0 (.seq d1 (.seq d2 (.seq d3 (.seq d4 (.seq d5 (.seq e0 (.seq e1 tail))))))))) cR))))) cEnd)))))))))))))))
    (lo cb bb N mc : Nat) (ma : Option Addr) (v0 v1 v16 : Value) (en : Int) (m b d k mf : Int) (cl : Nat → Nat) (bd : Nat → Bool) (w : World) (hN : N ≤ 100) (hm : m = cnt bd N) (h31 : cnt bd N ≤ 31) (hbd : ∀ j, j < N → bd j = true → cl j = 125)
    (hrc : Rd w (some ⟨cb, 0, none⟩) N (fun j => .int .u8 (cl j))) (hrb : Rd w (some ⟨bb, 0, none⟩) N (fun j => .bool (bd j))) (hma : w.ownsRow lo 5 1 (.slice ma N mc) N (us cl N))
    {u2 u3 u4 u5 u6 u7 u8 u9 u10 u11 u12 u13 u15 u18 u19 u20 u21 u22 u30 u31 u32 u33 u34 u35 u36 u37 u38 u39 u40 u41 u42 u43 u44 u45 u46 u47 u48 u49 u50 u51 u52 u53 u54 u55 u56 u57 u58 u59 u60 u61 u62 u63 u64 u65 u66 u67 u68 u69 u70 u71 u72 u73 u74 u75 u76 u77 u78 u79 u80 u81 u82 u83 u84 u85 u86 u87 u88 u89 u90 u91 u92 u93 u94 u95 u96 u97 u98 u99 u100 u101 u102 u103 u104 u105 u106 u107 u108 u109 u110 u111 u112 u113 u114 u115 u116 u117 u118 u119 u120 u121 u122 u123 u124 u125 u126 u127 u128 u129 u130 u131 u132 u133 u134 u135 u136 u137 u138 u139 u140 u141 u142 u143 u144 u145 u146 u147 u148 u149 u150 u151 u152 u153 u154 u155 u156 u157 u158 u159 u160 u161 u162 u163 u164 u165 u166 u167 u168 u169 u170 u171 u172 u173 u174 u175 u176 u177 u178 u179 u180 u181 u182 u183 u184 u185 u186 u187 u188 u189 u190 u191 u192 u193 u194 u195 u196 u197 u198 u199 u200 u201 u202 u203 u204 u205 u206 u207 u208 u209 u210 u211 u212 u213 u214 u215 u216 u217 u218 u219 u220 u221 u222 u223 u224 u225 u226 u227 u228 u229 u230 u231 u232 u233 u234 u235 u236 u237 u238 u239 u240 u241 u242 u243 u244 u245 u246 u247 u248 u249 u250 u251 u252 u253 u254 u255 u256 u257 u258 u259 u260 u261 u262 u263 u264 u265 u266 u267 u268 u269 u270 u271 u272 : Value}
    (Q : Exit → Act → World → Prop) (hQ : ∀ w', Dr w w' → ∀ y4 y17 y18 y19 y20 y21 y22 y23 y24 y25 y26 y27 y28 y29 y30 y31 y71 y72 y73 y74 y75 y76 y77 y78 y79 y80 y81 y82 y83 y84 y85 y86 y87 y88 y89 y90 y91 y92 y93 y94 y95 y96 y97 y98 y99 y100 y101 y102 y103 y104 y105 y106 y107 y108 y109 y110 y111 y112 y113 y114 y115 y116 y117 y118 y119 y120 y121 y122 y123 y124 y125 y126 y127 y128 y129 y130 y131 y132 y133 y134 y135 y136 y137 y138 y139 y140 y141 y142 y143 y144 y145 y146 y147 y148 y149 y150 y151 y152 y153 y154 y155 y156 y157 y158 y159 y160 y161 y162 y163 y164 y165 y166 y167 y168 y169 y170 y171 y172 y173 y174 y175 y176 y177 y178 y179 y180 y181 y182 y183 y184 y185 y186 y187 y188 y189 y190 y191 y192 y193 y194 y195 y196 y197 y198 y199 y200 y201 y202 y203 y204 y205 y206 y207 y208 y209 y210 y211 y212 y213 y214 y215 y216 y217 y218 y219 y220 y221 y222 y223 y224 y225 y226 y227 y228 y229 y230 y231 y232 y233 y234 y235 y236 y237 y238 y239 y240 y241 y242 y243 y244 y245 y246 y247 y248 y249 y250 y251 y252 y253 y254 y255 y256 y257 y258 y259 y260 y261 y262 y263 y264 y265 y266 y267 y268 y269 y270 y271 y272 : Value, Q .normal ⟨List.toArray ((v0) :: (v1) :: (u2) :: (u3) :: y4 :: (u5) :: (u6) :: (.slice (some ⟨cb, 0, none⟩) N N) :: (.slice (some ⟨bb, 0, none⟩) N N) :: (.int .i64 m) :: (.int .i64 b) :: (.int .i64 d) :: (.int .i64 k) :: (.int .i64 mf) :: (.slice ma N mc) :: (.int .i64 en) :: (v16) :: y17 :: y18 :: y19 :: y20 :: y21 :: y22 :: y23 :: y24 :: y25 :: y26 :: y27 :: y28 :: y29 :: y30 :: y31 :: (u32) :: (u33) :: (u34) :: (u35) :: (u36) :: (u37) :: (u38) :: (u39) :: (u40) :: (u41) :: (u42) :: (u43) :: (u44) :: (u45) :: (u46) :: (u47) :: (u48) :: (u49) :: (u50) :: (u51) :: (u52) :: (u53) :: (u54) :: (u55) :: (u56) :: (u57) :: (u58) :: (u59) :: (u60) :: (u61) :: (u62) :: (u63) :: (u64) :: (u65) :: (u66) :: (u67) :: (u68) :: (u69) :: (u70) :: y71 :: y72 :: y73 :: y74 :: y75 :: y76 :: y77 :: y78 :: y79 :: y80 :: y81 :: y82 :: y83 :: y84 :: y85 :: y86 :: y87 :: y88 :: y89 :: y90 :: y91 :: y92 :: y93 :: y94 :: y95 :: y96 :: y97 :: y98 :: y99 :: y100 :: y101 :: y102 :: y103 :: y104 :: y105 :: y106 :: y107 :: y108 :: y109 :: y110 :: y111 :: y112 :: y113 :: y114 :: y115 :: y116 :: y117 :: y118 :: y119 :: y120 :: y121 :: y122 :: y123 :: y124 :: y125 :: y126 :: y127 :: y128 :: y129 :: y130 :: y131 :: y132 :: y133 :: y134 :: y135 :: y136 :: y137 :: y138 :: y139 :: y140 :: y141 :: y142 :: y143 :: y144 :: y145 :: y146 :: y147 :: y148 :: y149 :: y150 :: y151 :: y152 :: y153 :: y154 :: y155 :: y156 :: y157 :: y158 :: y159 :: y160 :: y161 :: y162 :: y163 :: y164 :: y165 :: y166 :: y167 :: y168 :: y169 :: y170 :: y171 :: y172 :: y173 :: y174 :: y175 :: y176 :: y177 :: y178 :: y179 :: y180 :: y181 :: y182 :: y183 :: y184 :: y185 :: y186 :: y187 :: y188 :: y189 :: y190 :: y191 :: y192 :: y193 :: y194 :: y195 :: y196 :: y197 :: y198 :: y199 :: y200 :: y201 :: y202 :: y203 :: y204 :: y205 :: y206 :: y207 :: y208 :: y209 :: y210 :: y211 :: y212 :: y213 :: y214 :: y215 :: y216 :: y217 :: y218 :: y219 :: y220 :: y221 :: y222 :: y223 :: y224 :: y225 :: y226 :: y227 :: y228 :: y229 :: y230 :: y231 :: y232 :: y233 :: y234 :: y235 :: y236 :: y237 :: y238 :: y239 :: y240 :: y241 :: y242 :: y243 :: y244 :: y245 :: y246 :: y247 :: y248 :: y249 :: y250 :: y251 :: y252 :: y253 :: y254 :: y255 :: y256 :: y257 :: y258 :: y259 :: y260 :: y261 :: y262 :: y263 :: y264 :: y265 :: y266 :: y267 :: y268 :: y269 :: y270 :: y271 :: y272 :: []), []⟩ w') :
    Code.wp Try.prog tail Q ⟨List.toArray ((v0) :: (v1) :: u2 :: u3 :: u4 :: u5 :: u6 :: u7 :: u8 :: u9 :: u10 :: u11 :: u12 :: u13 :: (.slice ma N mc) :: u15 :: (v16) :: (.int .i64 en) :: u18 :: u19 :: u20 :: u21 :: u22 :: (.slice (some ⟨cb, 0, none⟩) N N) :: (.slice (some ⟨bb, 0, none⟩) N N) :: (.int .i64 m) :: (.int .i64 b) :: (.int .i64 d) :: (.int .i64 k) :: (.int .i64 mf) :: u30 :: u31 :: u32 :: u33 :: u34 :: u35 :: u36 :: u37 :: u38 :: u39 :: u40 :: u41 :: u42 :: u43 :: u44 :: u45 :: u46 :: u47 :: u48 :: u49 :: u50 :: u51 :: u52 :: u53 :: u54 :: u55 :: u56 :: u57 :: u58 :: u59 :: u60 :: u61 :: u62 :: u63 :: u64 :: u65 :: u66 :: u67 :: u68 :: u69 :: u70 :: u71 :: u72 :: u73 :: u74 :: u75 :: u76 :: u77 :: u78 :: u79 :: u80 :: u81 :: u82 :: u83 :: u84 :: u85 :: u86 :: u87 :: u88 :: u89 :: u90 :: u91 :: u92 :: u93 :: u94 :: u95 :: u96 :: u97 :: u98 :: u99 :: u100 :: u101 :: u102 :: u103 :: u104 :: u105 :: u106 :: u107 :: u108 :: u109 :: u110 :: u111 :: u112 :: u113 :: u114 :: u115 :: u116 :: u117 :: u118 :: u119 :: u120 :: u121 :: u122 :: u123 :: u124 :: u125 :: u126 :: u127 :: u128 :: u129 :: u130 :: u131 :: u132 :: u133 :: u134 :: u135 :: u136 :: u137 :: u138 :: u139 :: u140 :: u141 :: u142 :: u143 :: u144 :: u145 :: u146 :: u147 :: u148 :: u149 :: u150 :: u151 :: u152 :: u153 :: u154 :: u155 :: u156 :: u157 :: u158 :: u159 :: u160 :: u161 :: u162 :: u163 :: u164 :: u165 :: u166 :: u167 :: u168 :: u169 :: u170 :: u171 :: u172 :: u173 :: u174 :: u175 :: u176 :: u177 :: u178 :: u179 :: u180 :: u181 :: u182 :: u183 :: u184 :: u185 :: u186 :: u187 :: u188 :: u189 :: u190 :: u191 :: u192 :: u193 :: u194 :: u195 :: u196 :: u197 :: u198 :: u199 :: u200 :: u201 :: u202 :: u203 :: u204 :: u205 :: u206 :: u207 :: u208 :: u209 :: u210 :: u211 :: u212 :: u213 :: u214 :: u215 :: u216 :: u217 :: u218 :: u219 :: u220 :: u221 :: u222 :: u223 :: u224 :: u225 :: u226 :: u227 :: u228 :: u229 :: u230 :: u231 :: u232 :: u233 :: u234 :: u235 :: u236 :: u237 :: u238 :: u239 :: u240 :: u241 :: u242 :: u243 :: u244 :: u245 :: u246 :: u247 :: u248 :: u249 :: u250 :: u251 :: u252 :: u253 :: u254 :: u255 :: u256 :: u257 :: u258 :: u259 :: u260 :: u261 :: u262 :: u263 :: u264 :: u265 :: u266 :: u267 :: u268 :: u269 :: u270 :: u271 :: u272 :: []), []⟩ w := by
  obtain ⟨c0, c1, c2, c3, c4, c5, c6, c7, c8, c9, c10, c11, c12, c13, cA, d0, d1, d2, d3, d4, d5, e0, e1, cR, cEnd, ht⟩ := htail
  unfold Try.f6 at ht
  simp only [Option.some.injEq, Code.seq.injEq, Code.block.injEq, Code.loop.injEq, true_and] at ht
  obtain ⟨-, -, -, -, -, -, -, -, -, -, -, -, -, ⟨-, -, ⟨-, -, -, -, -, -, -, -, rfl⟩, -⟩, -⟩ := ht
  have HQ : Hid (∀ w', Dr w w' → ∀ y4 y17 y18 y19 y20 y21 y22 y23 y24 y25 y26 y27 y28 y29 y30 y31 y71 y72 y73 y74 y75 y76 y77 y78 y79 y80 y81 y82 y83 y84 y85 y86 y87 y88 y89 y90 y91 y92 y93 y94 y95 y96 y97 y98 y99 y100 y101 y102 y103 y104 y105 y106 y107 y108 y109 y110 y111 y112 y113 y114 y115 y116 y117 y118 y119 y120 y121 y122 y123 y124 y125 y126 y127 y128 y129 y130 y131 y132 y133 y134 y135 y136 y137 y138 y139 y140 y141 y142 y143 y144 y145 y146 y147 y148 y149 y150 y151 y152 y153 y154 y155 y156 y157 y158 y159 y160 y161 y162 y163 y164 y165 y166 y167 y168 y169 y170 y171 y172 y173 y174 y175 y176 y177 y178 y179 y180 y181 y182 y183 y184 y185 y186 y187 y188 y189 y190 y191 y192 y193 y194 y195 y196 y197 y198 y199 y200 y201 y202 y203 y204 y205 y206 y207 y208 y209 y210 y211 y212 y213 y214 y215 y216 y217 y218 y219 y220 y221 y222 y223 y224 y225 y226 y227 y228 y229 y230 y231 y232 y233 y234 y235 y236 y237 y238 y239 y240 y241 y242 y243 y244 y245 y246 y247 y248 y249 y250 y251 y252 y253 y254 y255 y256 y257 y258 y259 y260 y261 y262 y263 y264 y265 y266 y267 y268 y269 y270 y271 y272 : Value, Q .normal ⟨List.toArray ((v0) :: (v1) :: (u2) :: (u3) :: y4 :: (u5) :: (u6) :: (.slice (some ⟨cb, 0, none⟩) N N) :: (.slice (some ⟨bb, 0, none⟩) N N) :: (.int .i64 m) :: (.int .i64 b) :: (.int .i64 d) :: (.int .i64 k) :: (.int .i64 mf) :: (.slice ma N mc) :: (.int .i64 en) :: (v16) :: y17 :: y18 :: y19 :: y20 :: y21 :: y22 :: y23 :: y24 :: y25 :: y26 :: y27 :: y28 :: y29 :: y30 :: y31 :: (u32) :: (u33) :: (u34) :: (u35) :: (u36) :: (u37) :: (u38) :: (u39) :: (u40) :: (u41) :: (u42) :: (u43) :: (u44) :: (u45) :: (u46) :: (u47) :: (u48) :: (u49) :: (u50) :: (u51) :: (u52) :: (u53) :: (u54) :: (u55) :: (u56) :: (u57) :: (u58) :: (u59) :: (u60) :: (u61) :: (u62) :: (u63) :: (u64) :: (u65) :: (u66) :: (u67) :: (u68) :: (u69) :: (u70) :: y71 :: y72 :: y73 :: y74 :: y75 :: y76 :: y77 :: y78 :: y79 :: y80 :: y81 :: y82 :: y83 :: y84 :: y85 :: y86 :: y87 :: y88 :: y89 :: y90 :: y91 :: y92 :: y93 :: y94 :: y95 :: y96 :: y97 :: y98 :: y99 :: y100 :: y101 :: y102 :: y103 :: y104 :: y105 :: y106 :: y107 :: y108 :: y109 :: y110 :: y111 :: y112 :: y113 :: y114 :: y115 :: y116 :: y117 :: y118 :: y119 :: y120 :: y121 :: y122 :: y123 :: y124 :: y125 :: y126 :: y127 :: y128 :: y129 :: y130 :: y131 :: y132 :: y133 :: y134 :: y135 :: y136 :: y137 :: y138 :: y139 :: y140 :: y141 :: y142 :: y143 :: y144 :: y145 :: y146 :: y147 :: y148 :: y149 :: y150 :: y151 :: y152 :: y153 :: y154 :: y155 :: y156 :: y157 :: y158 :: y159 :: y160 :: y161 :: y162 :: y163 :: y164 :: y165 :: y166 :: y167 :: y168 :: y169 :: y170 :: y171 :: y172 :: y173 :: y174 :: y175 :: y176 :: y177 :: y178 :: y179 :: y180 :: y181 :: y182 :: y183 :: y184 :: y185 :: y186 :: y187 :: y188 :: y189 :: y190 :: y191 :: y192 :: y193 :: y194 :: y195 :: y196 :: y197 :: y198 :: y199 :: y200 :: y201 :: y202 :: y203 :: y204 :: y205 :: y206 :: y207 :: y208 :: y209 :: y210 :: y211 :: y212 :: y213 :: y214 :: y215 :: y216 :: y217 :: y218 :: y219 :: y220 :: y221 :: y222 :: y223 :: y224 :: y225 :: y226 :: y227 :: y228 :: y229 :: y230 :: y231 :: y232 :: y233 :: y234 :: y235 :: y236 :: y237 :: y238 :: y239 :: y240 :: y241 :: y242 :: y243 :: y244 :: y245 :: y246 :: y247 :: y248 :: y249 :: y250 :: y251 :: y252 :: y253 :: y254 :: y255 :: y256 :: y257 :: y258 :: y259 :: y260 :: y261 :: y262 :: y263 :: y264 :: y265 :: y266 :: y267 :: y268 :: y269 :: y270 :: y271 :: y272 :: []), []⟩ w') := hQ
  clear hQ
  subst hm
  have tm : ((cnt bd N : Int) != (cnt bd N : Int)) = false := by simp
  have t31n : decide (31 < cnt bd N) = false := decide_eq_false (by omega)
  have t31 : decide ((31 : Int) < (cnt bd N : Int)) = false := decide_eq_false (by omega)
  have tN : ((N : Int) != (N : Int)) = false := by simp
  have H3 : Hid (cnt bd N ≤ 31) := h31
  clear h31
  go_wp2_with fail
  go_loopw [30, 31] (fun c j wr => ∃ q : Nat, q ≤ N ∧ j = .int .i64 q ∧ c = .int .i64 (cnt bd q) ∧ Dr w wr) (fun _ j _ => N - (intOf j).toNat)
  case atStart => exact ⟨0, by omega, rfl, rfl, Dr.refl _⟩
  case round =>
    obtain ⟨q, hq, rfl, rfl, dd, hwr⟩ := hrel
    subst wr
    by_cases hlt : q < N
    · obtain ⟨cb', co', e1, _, hcc⟩ := hrc.at_ (by omega)
      cases e1
      obtain ⟨bb', bo', e1, _, hbc⟩ := hrb.at_ (by omega)
      cases e1
      obtain ⟨oa, cap, e1, hcap, hg⟩ := us_read hma
      cases e1
      obtain ⟨g, rfl, _, _, hgc⟩ := hg (by omega)
      have x1 : w.cell? ⟨cb, q, none⟩ = some (.int .u8 (cl q)) := by simpa using hcc q hlt
      have x2 : w.cell? ⟨bb, q, none⟩ = some (.bool (bd q)) := by simpa using hbc q hlt
      have x3 : w.cell? ⟨g, q, none⟩ = some (.int .u8 (cl q)) := hgc q hlt
      have g0 : (0 : Int) ≤ (q : Int) := by omega
      have g1 : (q : Int) < (N : Int) := by omega
      have tq : ((cl q : Int) != (cl q : Int)) = false := by simp
      have hle := cnt_le bd q
      clear hcc hbc hgc hg
      cases hb : bd q with
      | true =>
        have t5 : ((cl q : Int) != 125) = false := by rw [hbd q hlt hb]; decide
        have HC : Hid (cnt bd (q + 1) = cnt bd q + 1) := cnt_yes hb
        rw [hb] at x2
        clear hb
        go_wp2_with fail
        go_quiet (fail)
        go_wp2_with fail
        go_roundw
        case rel => exact ⟨q + 1, by omega, by go_num, by rw [HC.out]; go_num, ⟨_, rfl⟩⟩
        case measure => simp [intOf]; omega
      | false =>
        have HC : Hid (cnt bd (q + 1) = cnt bd q) := cnt_no hb
        rw [hb] at x2
        clear hb
        go_wp2_with fail
        go_quiet (fail)
        go_wp2_with fail
        go_roundw
        case rel => exact ⟨q + 1, by omega, by go_num, by rw [HC.out], ⟨_, rfl⟩⟩
        case measure => simp [intOf]; omega
    · have e1 : q = N := by omega
      subst e1
      go_wp2_with fail
      apply HQ.out
      exact ⟨_, rfl⟩

end Go.Proofs.Qxb6601609a
