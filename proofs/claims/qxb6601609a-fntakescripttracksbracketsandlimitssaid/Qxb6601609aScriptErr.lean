import Derived.Test.Qxb6601609aScriptPlain
namespace Go.Proofs.Qxb6601609a
open Go.RowKit
set_option linter.unusedVariables false

set_option maxRecDepth 100000 in
set_option maxHeartbeats 3200000 in
theorem err1 {tail : Code} (htail : ∃ c0 c1 c2 c3 c4 c5 c6 c7 c8 c9 c10 c11 c12 c13 cA d0 d1 d2 d3 d4 d5 OK cR cEnd, Try.f6.body = some (.seq c0 (.seq c1 (.seq c2 (.seq c3 (.seq c4 (.seq c5 (.seq c6 (.seq c7 (.seq c8 (.seq c9 (.seq c10 (.seq c11 (.seq c12 (.seq (.seq c13 (.block 2 (.loop (.seq cA (.seq (.block 3 (.seq d0 (.seq d1 (.seq d2 (.seq d3 (.seq d4 (.seq (.seq d5 tail) OK)))))) ) cR))))) cEnd)))))))))))))))
    (sb soff sn eb eo n i N q : Nat) (m oa : Int) (f E : Nat → Nat) (w : World) (hcz : cof (f (st E i)) ≠ 0) (hN : N = 100) (hq : w.heap[q]? = some (.cells #[.string ⟨#[110, 101, 115, 116, 105, 110, 103]⟩, .string ByteArray.empty, .int .i64 0, .int .i64 0, .int .i64 101, .int .i64 100] 38 (0, 0))) (ha : oa = st E i)
    (P : Ending → World → Prop) (hP : ∀ w', Dr w w' → P (.returned (.bool true)) w')
    (Q : Exit → Act → World → Prop) (hQ : ∀ a w', bodyPost Try.prog Try.f6 P .ret a w' → Q .ret a w')
    {u2 u3 u4 u5 u6 u7 u8 u10 u11 u12 u13 u14 u16 u17 u18 u23 u24 u25 u26 u27 u28 u29 u30 u31 u32 u33 u34 u35 u36 u37 u38 u39 u40 u41 u42 u43 u44 u45 u46 u47 u48 u49 u50 u51 u52 u53 u54 u55 u56 u57 u58 u59 u60 u61 u62 u63 u64 u65 u66 u67 u68 u69 u70 u71 u72 u73 u74 u75 u76 u77 u78 u79 u80 u81 u82 u83 u84 u85 u86 u87 u88 u89 u90 u91 u92 u93 u94 u95 u96 u97 u98 u99 u100 u101 u102 u103 u104 u105 u106 u107 u108 u109 u110 u112 u113 u114 u115 u116 u117 u118 u119 u120 u121 u122 u123 u124 u125 u126 u127 u128 u129 u130 u131 u132 u133 u134 u135 u136 u137 u138 u139 u140 u141 u142 u143 u144 u145 u146 u147 u148 u149 u150 u151 u152 u153 u154 u155 u156 u157 u158 u159 u160 u161 u162 u163 u164 u165 u166 u167 u168 u169 u170 u171 u172 u173 u174 u175 u176 u177 u178 u179 u180 u181 u182 u183 u184 u185 u186 u187 u188 u189 u190 u191 u192 u193 u194 u195 u196 u197 u198 u199 u200 u201 u202 u203 u204 u205 u206 u207 u208 u209 u210 u211 u212 u213 u214 u215 u216 u217 u218 u219 u220 u221 u222 u223 u224 u225 u226 u227 u228 u229 u230 u231 u232 u233 u234 u235 u236 u237 u238 u239 u240 u241 u242 u243 u244 u245 u246 u247 u248 u249 u250 u251 u252 u253 u254 u255 u256 u257 u258 u259 u260 u261 u262 u263 u264 u265 u266 u267 u268 u269 u270 u271 u272 : Value} :
    Code.wp Try.prog tail Q ⟨List.toArray ((.slice (some ⟨sb, soff, none⟩) sn sn) :: (.slice (some ⟨eb, eo, none⟩) n n) :: u2 :: u3 :: u4 :: u5 :: u6 :: u7 :: u8 :: (.int .i64 m) :: u10 :: u11 :: u12 :: u13 :: u14 :: (.int .i64 (st E i)) :: u16 :: u17 :: u18 :: (.int .u8 (cof (f (st E i)))) :: (.int .i64 N) :: (.int .i64 oa) :: (.pointer (some ⟨q, 0, none⟩)) :: u23 :: u24 :: u25 :: u26 :: u27 :: u28 :: u29 :: u30 :: u31 :: u32 :: u33 :: u34 :: u35 :: u36 :: u37 :: u38 :: u39 :: u40 :: u41 :: u42 :: u43 :: u44 :: u45 :: u46 :: u47 :: u48 :: u49 :: u50 :: u51 :: u52 :: u53 :: u54 :: u55 :: u56 :: u57 :: u58 :: u59 :: u60 :: u61 :: u62 :: u63 :: u64 :: u65 :: u66 :: u67 :: u68 :: u69 :: u70 :: u71 :: u72 :: u73 :: u74 :: u75 :: u76 :: u77 :: u78 :: u79 :: u80 :: u81 :: u82 :: u83 :: u84 :: u85 :: u86 :: u87 :: u88 :: u89 :: u90 :: u91 :: u92 :: u93 :: u94 :: u95 :: u96 :: u97 :: u98 :: u99 :: u100 :: u101 :: u102 :: u103 :: u104 :: u105 :: u106 :: u107 :: u108 :: u109 :: u110 :: (.bool true) :: u112 :: u113 :: u114 :: u115 :: u116 :: u117 :: u118 :: u119 :: u120 :: u121 :: u122 :: u123 :: u124 :: u125 :: u126 :: u127 :: u128 :: u129 :: u130 :: u131 :: u132 :: u133 :: u134 :: u135 :: u136 :: u137 :: u138 :: u139 :: u140 :: u141 :: u142 :: u143 :: u144 :: u145 :: u146 :: u147 :: u148 :: u149 :: u150 :: u151 :: u152 :: u153 :: u154 :: u155 :: u156 :: u157 :: u158 :: u159 :: u160 :: u161 :: u162 :: u163 :: u164 :: u165 :: u166 :: u167 :: u168 :: u169 :: u170 :: u171 :: u172 :: u173 :: u174 :: u175 :: u176 :: u177 :: u178 :: u179 :: u180 :: u181 :: u182 :: u183 :: u184 :: u185 :: u186 :: u187 :: u188 :: u189 :: u190 :: u191 :: u192 :: u193 :: u194 :: u195 :: u196 :: u197 :: u198 :: u199 :: u200 :: u201 :: u202 :: u203 :: u204 :: u205 :: u206 :: u207 :: u208 :: u209 :: u210 :: u211 :: u212 :: u213 :: u214 :: u215 :: u216 :: u217 :: u218 :: u219 :: u220 :: u221 :: u222 :: u223 :: u224 :: u225 :: u226 :: u227 :: u228 :: u229 :: u230 :: u231 :: u232 :: u233 :: u234 :: u235 :: u236 :: u237 :: u238 :: u239 :: u240 :: u241 :: u242 :: u243 :: u244 :: u245 :: u246 :: u247 :: u248 :: u249 :: u250 :: u251 :: u252 :: u253 :: u254 :: u255 :: u256 :: u257 :: u258 :: u259 :: u260 :: u261 :: u262 :: u263 :: u264 :: u265 :: u266 :: u267 :: u268 :: u269 :: u270 :: u271 :: u272 :: []), []⟩ w := by
  obtain ⟨c0, c1, c2, c3, c4, c5, c6, c7, c8, c9, c10, c11, c12, c13, cA, d0, d1, d2, d3, d4, d5, OK, cR, cEnd, ht⟩ := htail
  unfold Try.f6 at ht
  simp only [Option.some.injEq, Code.seq.injEq, Code.block.injEq, Code.loop.injEq, true_and] at ht
  obtain ⟨-, -, -, -, -, -, -, -, -, -, -, -, -, ⟨-, -, ⟨-, -, -, -, -, ⟨-, rfl⟩, -⟩, -⟩, -⟩ := ht
  have HQ : Hid (∀ a w', bodyPost Try.prog Try.f6 P .ret a w' → Q .ret a w') := hQ
  have HP : Hid (∀ w', Dr w w' → P (.returned (.bool true)) w') := hP
  clear hP hQ
  have tz : ((cof (f (st E i)) : Int) == 0) = false := by simp; omega
  have tN : ((N : Int) == 100) = true := by simp; omega
  have ta : (oa == (st E i : Int)) = true := by simp [ha]
  have x0 : w.cell? ⟨q, 0, none⟩ = some (.string ⟨#[110, 101, 115, 116, 105, 110, 103]⟩) := by simp [World.cell?, hq]
  have x1 : w.cell? ⟨q, 1, none⟩ = some (.string ByteArray.empty) := by simp [World.cell?, hq]
  have x2 : w.cell? ⟨q, 2, none⟩ = some (.int .i64 0) := by simp [World.cell?, hq]
  have x3 : w.cell? ⟨q, 3, none⟩ = some (.int .i64 0) := by simp [World.cell?, hq]
  have x4 : w.cell? ⟨q, 4, none⟩ = some (.int .i64 101) := by simp [World.cell?, hq]
  have x5 : w.cell? ⟨q, 5, none⟩ = some (.int .i64 100) := by simp [World.cell?, hq]
  clear hcz hN ha hq
  go_wp2_with fail
  refine HQ.out _ _ ?_
  go_ret
  exact HP.out _ (Dr.refl _)

set_option maxRecDepth 100000 in
set_option maxHeartbeats 3200000 in
theorem err2 {tail : Code} (htail : ∃ c0 c1 c2 c3 c4 c5 c6 c7 c8 c9 c10 c11 c12 c13 cA d0 d1 d2 d3 d4 d5 OK cR cEnd, Try.f6.body = some (.seq c0 (.seq c1 (.seq c2 (.seq c3 (.seq c4 (.seq c5 (.seq c6 (.seq c7 (.seq c8 (.seq c9 (.seq c10 (.seq c11 (.seq c12 (.seq (.seq c13 (.block 2 (.loop (.seq cA (.seq (.block 3 (.seq d0 (.seq d1 (.seq d2 (.seq d3 (.seq d4 (.seq (.seq d5 tail) OK)))))) ) cR))))) cEnd)))))))))))))))
    (sb soff sn eb eo n i N q : Nat) (m oa : Int) (f E : Nat → Nat) (w : World) (hcz : cof (f (st E i)) ≠ 0) (hN : N ≠ 100) (hq : w.heap[q]? = some (.cells #[.string ⟨#[109, 101, 115, 115, 97, 103, 101, 32, 110, 101, 115, 116, 105, 110, 103]⟩, .string ByteArray.empty, .int .i64 0, .int .i64 0, .int .i64 32, .int .i64 31] 38 (0, 0))) (hm : m = 31) (p : Nat) (hp : p < i) (hi : i < n) (ha : oa = st E p) (htok : MsgTok f (st E p) (E p) ∨ MapTok f (st E p) (E p))
    (hn : n ≤ 4096) (hsn : sn ≤ 65536) (hf : ∀ i, f i < 256) (hE : ∀ i, i < n → st E i < E i ∧ E i ≤ sn) (h : Has w sb soff sn f) (he : Rd w (some ⟨eb, eo, none⟩) n (fun i => .int .i64 (E i)))
    (P : Ending → World → Prop) (hP : ∀ w', Dr w w' → P (.returned (.bool true)) w')
    (Q : Exit → Act → World → Prop) (hQ : ∀ a w', bodyPost Try.prog Try.f6 P .ret a w' → Q .ret a w')
    {u2 u3 u4 u5 u6 u7 u8 u10 u11 u12 u13 u14 u16 u17 u18 u23 u24 u25 u26 u27 u28 u29 u30 u31 u32 u33 u34 u35 u36 u37 u38 u39 u40 u41 u42 u43 u44 u45 u46 u47 u48 u49 u50 u51 u52 u53 u54 u55 u56 u57 u58 u59 u60 u61 u62 u63 u64 u65 u66 u67 u68 u69 u70 u71 u72 u73 u74 u75 u76 u77 u78 u79 u80 u81 u82 u83 u84 u85 u86 u87 u88 u89 u90 u91 u92 u93 u94 u95 u96 u97 u98 u99 u100 u101 u102 u103 u104 u105 u106 u107 u108 u109 u110 u112 u113 u114 u115 u116 u117 u118 u119 u120 u121 u122 u123 u124 u125 u126 u127 u128 u129 u130 u131 u132 u133 u134 u135 u136 u137 u138 u139 u140 u141 u142 u143 u144 u145 u146 u147 u148 u149 u150 u151 u152 u153 u154 u155 u156 u157 u158 u159 u160 u161 u162 u163 u164 u165 u166 u167 u168 u169 u170 u171 u172 u173 u174 u175 u176 u177 u178 u179 u180 u181 u182 u183 u184 u185 u186 u187 u188 u189 u190 u191 u192 u193 u194 u195 u196 u197 u198 u199 u200 u201 u202 u203 u204 u205 u206 u207 u208 u209 u210 u211 u212 u213 u214 u215 u216 u217 u218 u219 u220 u221 u222 u223 u224 u225 u226 u227 u228 u229 u230 u231 u232 u233 u234 u235 u236 u237 u238 u239 u240 u241 u242 u243 u244 u245 u246 u247 u248 u249 u250 u251 u252 u253 u254 u255 u256 u257 u258 u259 u260 u261 u262 u263 u264 u265 u266 u267 u268 u269 u270 u271 u272 : Value} :
    Code.wp Try.prog tail Q ⟨List.toArray ((.slice (some ⟨sb, soff, none⟩) sn sn) :: (.slice (some ⟨eb, eo, none⟩) n n) :: u2 :: u3 :: u4 :: u5 :: u6 :: u7 :: u8 :: (.int .i64 m) :: u10 :: u11 :: u12 :: u13 :: u14 :: (.int .i64 (st E i)) :: u16 :: u17 :: u18 :: (.int .u8 (cof (f (st E i)))) :: (.int .i64 N) :: (.int .i64 oa) :: (.pointer (some ⟨q, 0, none⟩)) :: u23 :: u24 :: u25 :: u26 :: u27 :: u28 :: u29 :: u30 :: u31 :: u32 :: u33 :: u34 :: u35 :: u36 :: u37 :: u38 :: u39 :: u40 :: u41 :: u42 :: u43 :: u44 :: u45 :: u46 :: u47 :: u48 :: u49 :: u50 :: u51 :: u52 :: u53 :: u54 :: u55 :: u56 :: u57 :: u58 :: u59 :: u60 :: u61 :: u62 :: u63 :: u64 :: u65 :: u66 :: u67 :: u68 :: u69 :: u70 :: u71 :: u72 :: u73 :: u74 :: u75 :: u76 :: u77 :: u78 :: u79 :: u80 :: u81 :: u82 :: u83 :: u84 :: u85 :: u86 :: u87 :: u88 :: u89 :: u90 :: u91 :: u92 :: u93 :: u94 :: u95 :: u96 :: u97 :: u98 :: u99 :: u100 :: u101 :: u102 :: u103 :: u104 :: u105 :: u106 :: u107 :: u108 :: u109 :: u110 :: (.bool true) :: u112 :: u113 :: u114 :: u115 :: u116 :: u117 :: u118 :: u119 :: u120 :: u121 :: u122 :: u123 :: u124 :: u125 :: u126 :: u127 :: u128 :: u129 :: u130 :: u131 :: u132 :: u133 :: u134 :: u135 :: u136 :: u137 :: u138 :: u139 :: u140 :: u141 :: u142 :: u143 :: u144 :: u145 :: u146 :: u147 :: u148 :: u149 :: u150 :: u151 :: u152 :: u153 :: u154 :: u155 :: u156 :: u157 :: u158 :: u159 :: u160 :: u161 :: u162 :: u163 :: u164 :: u165 :: u166 :: u167 :: u168 :: u169 :: u170 :: u171 :: u172 :: u173 :: u174 :: u175 :: u176 :: u177 :: u178 :: u179 :: u180 :: u181 :: u182 :: u183 :: u184 :: u185 :: u186 :: u187 :: u188 :: u189 :: u190 :: u191 :: u192 :: u193 :: u194 :: u195 :: u196 :: u197 :: u198 :: u199 :: u200 :: u201 :: u202 :: u203 :: u204 :: u205 :: u206 :: u207 :: u208 :: u209 :: u210 :: u211 :: u212 :: u213 :: u214 :: u215 :: u216 :: u217 :: u218 :: u219 :: u220 :: u221 :: u222 :: u223 :: u224 :: u225 :: u226 :: u227 :: u228 :: u229 :: u230 :: u231 :: u232 :: u233 :: u234 :: u235 :: u236 :: u237 :: u238 :: u239 :: u240 :: u241 :: u242 :: u243 :: u244 :: u245 :: u246 :: u247 :: u248 :: u249 :: u250 :: u251 :: u252 :: u253 :: u254 :: u255 :: u256 :: u257 :: u258 :: u259 :: u260 :: u261 :: u262 :: u263 :: u264 :: u265 :: u266 :: u267 :: u268 :: u269 :: u270 :: u271 :: u272 :: []), []⟩ w := by
  obtain ⟨c0, c1, c2, c3, c4, c5, c6, c7, c8, c9, c10, c11, c12, c13, cA, d0, d1, d2, d3, d4, d5, OK, cR, cEnd, ht⟩ := htail
  unfold Try.f6 at ht
  simp only [Option.some.injEq, Code.seq.injEq, Code.block.injEq, Code.loop.injEq, true_and] at ht
  obtain ⟨-, -, -, -, -, -, -, -, -, -, -, -, -, ⟨-, -, ⟨-, -, -, -, -, ⟨-, rfl⟩, -⟩, -⟩, -⟩ := ht
  have HQ : Hid (∀ a w', bodyPost Try.prog Try.f6 P .ret a w' → Q .ret a w') := hQ
  have HP : Hid (∀ w', Dr w w' → P (.returned (.bool true)) w') := hP
  clear hP hQ
  have HK := kwAt_any sb soff sn sn (some ⟨eb, eo, none⟩) n n p f E w hn hsn (Nat.le_refl _) hf hE h he (by omega) htok
  have hlt := st_lt (fun i hi => (hE i hi).1) hp (by omega)
  subst oa
  have tz : ((cof (f (st E i)) : Int) == 0) = false := by simp; omega
  have tN : ((N : Int) == 100) = false := by simp; omega
  have tm : (m != 31) = false := by simp [hm]
  have t0 : decide ((st E p : Int) < 0) = false := decide_eq_false (by omega)
  have t1 : decide ((st E i : Int) ≤ (st E p : Int)) = false := decide_eq_false (by omega)
  have x0 : w.cell? ⟨q, 0, none⟩ = some (.string ⟨#[109, 101, 115, 115, 97, 103, 101, 32, 110, 101, 115, 116, 105, 110, 103]⟩) := by simp [World.cell?, hq]
  have x1 : w.cell? ⟨q, 1, none⟩ = some (.string ByteArray.empty) := by simp [World.cell?, hq]
  have x2 : w.cell? ⟨q, 2, none⟩ = some (.int .i64 0) := by simp [World.cell?, hq]
  have x3 : w.cell? ⟨q, 3, none⟩ = some (.int .i64 0) := by simp [World.cell?, hq]
  have x4 : w.cell? ⟨q, 4, none⟩ = some (.int .i64 32) := by simp [World.cell?, hq]
  have x5 : w.cell? ⟨q, 5, none⟩ = some (.int .i64 31) := by simp [World.cell?, hq]
  clear hcz hN hm hq htok hE
  go_wp2_with (go_at_call 19; refine HK.mono ?_; rintro e1 w' ⟨rfl, hw'⟩)
  refine HQ.out _ _ ?_
  go_ret
  exact HP.out _ hw'

end Go.Proofs.Qxb6601609a
