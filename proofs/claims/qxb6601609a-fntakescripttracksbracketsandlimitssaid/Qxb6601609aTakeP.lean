import Derived.Test.Qxb6601609aState
import Derived.OneCell
namespace Go.Proofs.Qxb6601609a
open Go.RowKit
set_option linter.unusedVariables false

/-- The step at a token that opens a bracket. -/
def OpenSpec (f : Nat → Nat) (s N : Nat) (cl : Nat → Nat) (bd : Nat → Bool) (m b d mf : Int) (o : Out2) : Prop :=
  (N = 100 ∧ o.N = N ∧ o.er = some (⟨#[110, 101, 115, 116, 105, 110, 103]⟩, 101, 100) ∧ o.a = s) ∨
  (N ≠ 100 ∧ o.N = N ∧ m = 31 ∧ o.er = some (⟨#[109, 101, 115, 115, 97, 103, 101, 32, 110, 101, 115, 116, 105, 110, 103]⟩, 32, 31) ∧ ((f s = 123 ∧ b = N ∧ o.a = d) ∨ (0 ≤ mf ∧ o.a = mf))) ∨
  (N ≠ 100 ∧ o.N = N + 1 ∧ o.er = none ∧ o.a = 0 ∧ (∀ i, i < N → o.cl i = cl i ∧ o.bd i = bd i) ∧ o.cl N = cof (f s) ∧ o.d = d ∧ o.k = -1 ∧ o.f = -1 ∧
    ((o.bd N = true ∧ f s = 123 ∧ m ≠ 31 ∧ o.m = wrap64 (m + 1) ∧ o.b = -1) ∨ (o.bd N = false ∧ o.m = m ∧ o.b = b)))


def upd {α : Type} (g : Nat → α) (N : Nat) (x : α) : Nat → α := fun j => if j = N then x else g j
theorem upd_at {α : Type} (g : Nat → α) (N : Nat) (x : α) : upd g N x N = x := if_pos rfl
theorem upd_lt {α : Type} (g : Nat → α) {N j : Nat} (x : α) (h : j < N) : upd g N x j = g j := if_neg (by omega)
theorem brs_congr {cl cl' : Nat → Nat} {bd bd' : Nat → Bool} : ∀ {k : Nat}, (∀ i, i < k → cl' i = cl i ∧ bd' i = bd i) → brs cl' bd' k = brs cl bd k
  | 0, _ => rfl
  | k + 1, h => by rw [brs, brs, brs_congr (fun i hi => h i (by omega)), (h k (by omega)).1, (h k (by omega)).2]
theorem brs_push (cl : Nat → Nat) (bd : Nat → Bool) (N x : Nat) (y : Bool) : brs (upd cl N x) (upd bd N y) (N + 1) = brs cl bd N ++ [.int .u8 x, .bool y] := by
  rw [brs, brs_congr (fun i hi => ⟨upd_lt cl x hi, upd_lt bd y hi⟩), upd_at, upd_at]
theorem NS.alloc {w : World} {G : Nat} {sv ov : Value} {m b d k f : Int} (h : NS w G sv ov m b d k f) (o : Obj) : NS (w.alloc o) G sv ov m b d k f := by
  have := h
  unfold NS at this ⊢
  rw [Below.heap_alloc _ _ _ h.lt]
  exact this

set_option maxRecDepth 100000 in
set_option maxHeartbeats 3200000 in
theorem takeP2 {tail : Code} (htail : ∃ c0 c1 c2 c3 c4 c5 op c6 c8 c10 c12 c9, Try.f30.body = some (.seq c0 (.seq c1 (.seq c2 (.seq c3 (.seq (.seq c4 (.seq c5 (.cond op (.seq c6 (.seq c8 (.seq c10 (.seq c12 tail)))) .skip))) c9))))))
    (G lo Bk : Nat) (sv ov : Value) (N : Nat) (cl : Nat → Nat) (bd : Nat → Bool) (BF : Bool) (x : Nat) (M B d : Int) (w0 w : World) (hN : N ≤ 4096)
    (hBk : w.heap[Bk]? = some (.cells #[.int .u8 x, .bool BF] 47 (0, 0))) (hns : NS w G sv ov M B d (-1) (-1)) (hown : w.ownsRow lo 47 2 ov N (brs cl bd N)) (hgo : ∀ g, ov.ownBlock = some g → g < G) (hG : lo ≤ G) (hb : Below lo w0 w)
    (R : Out2 → Prop) (hR : R ⟨N + 1, upd cl N x, upd bd N BF, M, B, d, -1, -1, 0, none⟩)
    (K : Act → World → Prop)
    {u1 u2 u3 u4 u5 u6 u7 u8 u9 u10 u11 u13 u14 u15 u16 u17 u18 u19 u20 u21 u22 u23 u24 u25 u26 u27 u28 u29 u30 u31 u32 u33 u34 u35 u36 u37 u38 u39 u40 u41 u42 u43 u44 u45 u46 u47 u48 u49 u50 u51 u52 u53 u54 u55 u56 u57 u58 u59 u60 u61 u62 u63 u64 u65 u66 u67 u68 u69 u70 u71 u72 u73 u74 u75 u76 u77 u78 u79 u80 u81 u82 u83 u84 u85 u86 u87 u88 u89 u90 u91 u92 u93 u94 u95 u96 u97 u98 u99 u100 u101 u102 u103 u104 u105 u106 u107 u108 u109 u110 u111 u112 u113 u114 u115 u116 u117 u118 u119 u120 u121 u122 u123 u124 u125 u126 u127 u128 u129 u130 u131 u132 u133 u134 u135 u136 u137 u138 u139 u140 u141 u142 u143 u144 u145 u146 u147 u148 u149 u150 u151 u152 u153 u154 u155 u156 u157 u158 u159 u160 u161 u162 u163 u164 u165 u166 u167 u168 u169 u170 u171 u172 u173 u174 u175 u176 u177 u178 u179 u180 u181 u182 u183 u184 u185 u186 u187 u188 u189 u190 u191 u192 u193 u194 u195 u196 u197 u198 u199 u200 u201 u202 u203 u204 u205 u206 u207 u208 u209 u210 u211 u212 u213 u214 u215 u216 u217 u218 u219 u220 u221 u222 u223 u224 u225 u226 u227 u228 u229 u230 u231 u232 u233 u234 u235 u236 u237 u238 : Value} :
    Code.wp Try.prog tail (Exit.then K (bodyPost Try.prog Try.f30 (TU G lo sv R w0))) ⟨List.toArray ((.pointer (some ⟨G, 0, none⟩)) :: u1 :: u2 :: u3 :: u4 :: u5 :: u6 :: u7 :: u8 :: u9 :: u10 :: u11 :: (.pointer (some ⟨Bk, 0, none⟩)) :: u13 :: u14 :: u15 :: u16 :: u17 :: u18 :: u19 :: u20 :: u21 :: u22 :: u23 :: u24 :: u25 :: u26 :: u27 :: u28 :: u29 :: u30 :: u31 :: u32 :: u33 :: u34 :: u35 :: u36 :: u37 :: u38 :: u39 :: u40 :: u41 :: u42 :: u43 :: u44 :: u45 :: u46 :: u47 :: u48 :: u49 :: u50 :: u51 :: u52 :: u53 :: u54 :: u55 :: u56 :: u57 :: u58 :: u59 :: u60 :: u61 :: u62 :: u63 :: u64 :: u65 :: u66 :: u67 :: u68 :: u69 :: u70 :: u71 :: u72 :: u73 :: u74 :: u75 :: u76 :: u77 :: u78 :: u79 :: u80 :: u81 :: u82 :: u83 :: u84 :: u85 :: u86 :: u87 :: u88 :: u89 :: u90 :: u91 :: u92 :: u93 :: u94 :: u95 :: u96 :: u97 :: u98 :: u99 :: u100 :: u101 :: u102 :: u103 :: u104 :: u105 :: u106 :: u107 :: u108 :: u109 :: u110 :: u111 :: u112 :: u113 :: u114 :: u115 :: u116 :: u117 :: u118 :: u119 :: u120 :: u121 :: u122 :: u123 :: u124 :: u125 :: u126 :: u127 :: u128 :: u129 :: u130 :: u131 :: u132 :: u133 :: u134 :: u135 :: u136 :: u137 :: u138 :: u139 :: u140 :: u141 :: u142 :: u143 :: u144 :: u145 :: u146 :: u147 :: u148 :: u149 :: u150 :: u151 :: u152 :: u153 :: u154 :: u155 :: u156 :: u157 :: u158 :: u159 :: u160 :: u161 :: u162 :: u163 :: u164 :: u165 :: u166 :: u167 :: u168 :: u169 :: u170 :: u171 :: u172 :: u173 :: u174 :: u175 :: u176 :: u177 :: u178 :: u179 :: u180 :: u181 :: u182 :: u183 :: u184 :: u185 :: u186 :: u187 :: u188 :: u189 :: u190 :: u191 :: u192 :: u193 :: u194 :: u195 :: u196 :: u197 :: u198 :: u199 :: u200 :: u201 :: u202 :: u203 :: u204 :: u205 :: u206 :: u207 :: u208 :: u209 :: u210 :: u211 :: u212 :: u213 :: u214 :: u215 :: u216 :: u217 :: u218 :: u219 :: u220 :: u221 :: u222 :: u223 :: u224 :: u225 :: u226 :: u227 :: u228 :: u229 :: u230 :: u231 :: u232 :: u233 :: u234 :: u235 :: u236 :: u237 :: u238 :: []), []⟩ w := by
  obtain ⟨c0, c1, c2, c3, c4, c5, op, c6, c8, c10, c12, c9, ht⟩ := htail
  unfold Try.f30 at ht
  simp only [Option.some.injEq, Code.seq.injEq, Code.cond.injEq] at ht
  obtain ⟨-, -, -, -, ⟨-, -, -, ⟨-, -, -, -, rfl⟩, -⟩, -⟩ := ht
  obtain ⟨i0, hi0, hz0, hz1, hz2⟩ := info_parts Try.info47
  have x0 : w.cell? ⟨Bk, 0, none⟩ = some (.int .u8 x) := by simp [World.cell?, hBk]
  have x1 : w.cell? ⟨Bk, 1, none⟩ = some (.bool BF) := by simp [World.cell?, hBk]
  have lG := hns.lt
  have lBk : Bk < w.heap.size := (Array.getElem?_eq_some_iff.1 hBk).1
  have d1 := hns.c1
  have hnsA := fun o => NS.alloc hns o
  have ag : some G ≠ ov.ownBlock := fun e => by have := hgo G e.symm; omega
  go_wp2_with fail
  go_region_law
    ((refine step_append_lies _ (by rfl) _ _ _ (by rfl) lo 47 i0 _ 2 2 Try.underlying45 hi0 hz0 hz1 hz2 rfl (by omega) ov N (brs cl bd N) (by rfl) ((hown.alloc _).drew)
        ⟨w.heap.size, 0, none⟩ 1 1 [.int .u8 x, .bool BF] (by rfl) (by rfl) (World.news_of_block (cs := #[.int .u8 x, .bool BF]) (t := 47) (fr := (0, 0)) (heap_alloc_new w _)) (by simp [Value.oneCell'])
        (by omega) (by unfold maxLen; omega) (by omega) (by simp; omega) (w.heap.size + 1) (by simp) ?_; intro gg cap w1 hown1 hgrow hat hglt; have hns1 : NS w1 G sv ov M B d (-1) (-1) := (hgrow.block G (by simp; omega) ag).trans (hnsA _); have c1 := hns1.c1; have f1 := hns1.fz 1))
  all_goals
    have hns2 := hns1.s1 (.slice (some ⟨gg, 0, none⟩) (N + 1) cap)
    have hgl : gg ≠ G := by
      rcases hat with h1 | h1
      · exact fun e => ag (by rw [h1, e])
      · omega
    have hlo : Below lo w w1 := ((((Below.refl lo w).alloc (by omega) _)).drew).grown hgrow (by simp; omega) (fun j e => (hown.lt j e).1)
    have hown2 : w1.ownsRow lo 47 2 (.slice (some ⟨gg, 0, none⟩) (N + 1) cap) (N + 1) (brs (upd cl N x) (upd bd N BF) (N + 1)) := by rw [brs_push]; exact hown1
    clear hgrow hown1 hown hnsA hat
    go_wp2_with fail
    go_ret2
    have hne : (Value.slice (some ⟨gg, 0, none⟩) (N + 1) cap).ownBlock ≠ some G := fun e => hgl (by simpa [Value.ownBlock] using e)
    exact ⟨_, _, none, hR, rfl, ownsRow_setCell_other hown2 (a := ⟨G, 1, none⟩) hne _, hns2, (hb.trans hlo).setCell (p := ⟨G, 1, none⟩) hG _, rfl⟩

set_option maxRecDepth 100000 in
set_option maxHeartbeats 3200000 in
theorem takeP {tail : Code} (htail : ∃ c0 c1 c2 c3 c4 c5 op c6 c8 c10 c9, Try.f30.body = some (.seq c0 (.seq c1 (.seq c2 (.seq c3 (.seq (.seq c4 (.seq c5 (.cond op (.seq c6 (.seq c8 (.seq c10 tail))) .skip))) c9))))))
    (G lo Bk : Nat) (sv ov : Value) (N : Nat) (cl : Nat → Nat) (bd : Nat → Bool) (BF : Bool) (f : Nat → Nat) (s : Nat) (m b d mf : Int) (w0 w : World) (hN : N ≤ 4096) (hN1 : N ≠ 100)
    (hBk : w.heap[Bk]? = some (.cells #[.int .u8 (cof (f s)), .bool BF] 47 (0, 0))) (hGB : G < Bk) (hns : NS w G sv ov m b d (-1) (-1)) (hown : w.ownsRow lo 47 2 ov N (brs cl bd N)) (hgo : ∀ g, ov.ownBlock = some g → g < G) (hG : lo ≤ G) (hb : Below lo w0 w)
    (hBF : BF = true → f s = 123 ∧ m ≠ 31)
    (K : Act → World → Prop)
    {u1 u2 u3 u4 u5 u6 u7 u8 u9 u10 u11 u13 u14 u15 u16 u17 u18 u19 u20 u21 u22 u23 u24 u25 u26 u27 u28 u29 u30 u31 u32 u33 u34 u35 u36 u37 u38 u39 u40 u41 u42 u43 u44 u45 u46 u47 u48 u49 u50 u51 u52 u53 u54 u55 u56 u57 u58 u59 u60 u61 u62 u63 u64 u65 u66 u67 u68 u69 u70 u71 u72 u73 u74 u75 u76 u77 u78 u79 u80 u81 u82 u83 u84 u85 u86 u87 u88 u89 u90 u91 u92 u93 u94 u95 u96 u97 u98 u99 u100 u101 u102 u103 u104 u105 u106 u107 u108 u109 u110 u111 u112 u113 u114 u115 u116 u117 u118 u119 u120 u121 u122 u123 u124 u125 u126 u127 u128 u129 u130 u131 u132 u133 u134 u135 u136 u137 u138 u139 u140 u141 u142 u143 u144 u145 u146 u147 u148 u149 u150 u151 u152 u153 u154 u155 u156 u157 u158 u159 u160 u161 u162 u163 u164 u165 u166 u167 u168 u169 u170 u171 u172 u173 u174 u175 u176 u177 u178 u179 u180 u181 u182 u183 u184 u185 u186 u187 u188 u189 u190 u191 u192 u193 u194 u195 u196 u197 u198 u199 u200 u201 u202 u203 u204 u205 u206 u207 u208 u209 u210 u211 u212 u213 u214 u215 u216 u217 u218 u219 u220 u221 u222 u223 u224 u225 u226 u227 u228 u229 u230 u231 u232 u233 u234 u235 u236 u237 u238 : Value} :
    Code.wp Try.prog tail (Exit.then K (bodyPost Try.prog Try.f30 (TU G lo sv (OpenSpec f s N cl bd m b d mf) w0))) ⟨List.toArray ((.pointer (some ⟨G, 0, none⟩)) :: u1 :: u2 :: u3 :: u4 :: u5 :: u6 :: u7 :: u8 :: u9 :: u10 :: u11 :: (.pointer (some ⟨Bk, 0, none⟩)) :: u13 :: u14 :: u15 :: u16 :: u17 :: u18 :: u19 :: u20 :: u21 :: u22 :: u23 :: u24 :: u25 :: u26 :: u27 :: u28 :: u29 :: u30 :: u31 :: u32 :: u33 :: u34 :: u35 :: u36 :: u37 :: u38 :: u39 :: u40 :: u41 :: u42 :: u43 :: u44 :: u45 :: u46 :: u47 :: u48 :: u49 :: u50 :: u51 :: u52 :: u53 :: u54 :: u55 :: u56 :: u57 :: u58 :: u59 :: u60 :: u61 :: u62 :: u63 :: u64 :: u65 :: u66 :: u67 :: u68 :: u69 :: u70 :: u71 :: u72 :: u73 :: u74 :: u75 :: u76 :: u77 :: u78 :: u79 :: u80 :: u81 :: u82 :: u83 :: u84 :: u85 :: u86 :: u87 :: u88 :: u89 :: u90 :: u91 :: u92 :: u93 :: u94 :: u95 :: u96 :: u97 :: u98 :: u99 :: u100 :: u101 :: u102 :: u103 :: u104 :: u105 :: u106 :: u107 :: u108 :: u109 :: u110 :: u111 :: u112 :: u113 :: u114 :: u115 :: u116 :: u117 :: u118 :: u119 :: u120 :: u121 :: u122 :: u123 :: u124 :: u125 :: u126 :: u127 :: u128 :: u129 :: u130 :: u131 :: u132 :: u133 :: u134 :: u135 :: u136 :: u137 :: u138 :: u139 :: u140 :: u141 :: u142 :: u143 :: u144 :: u145 :: u146 :: u147 :: u148 :: u149 :: u150 :: u151 :: u152 :: u153 :: u154 :: u155 :: u156 :: u157 :: u158 :: u159 :: u160 :: u161 :: u162 :: u163 :: u164 :: u165 :: u166 :: u167 :: u168 :: u169 :: u170 :: u171 :: u172 :: u173 :: u174 :: u175 :: u176 :: u177 :: u178 :: u179 :: u180 :: u181 :: u182 :: u183 :: u184 :: u185 :: u186 :: u187 :: u188 :: u189 :: u190 :: u191 :: u192 :: u193 :: u194 :: u195 :: u196 :: u197 :: u198 :: u199 :: u200 :: u201 :: u202 :: u203 :: u204 :: u205 :: u206 :: u207 :: u208 :: u209 :: u210 :: u211 :: u212 :: u213 :: u214 :: u215 :: u216 :: u217 :: u218 :: u219 :: u220 :: u221 :: u222 :: u223 :: u224 :: u225 :: u226 :: u227 :: u228 :: u229 :: u230 :: u231 :: u232 :: u233 :: u234 :: u235 :: u236 :: u237 :: u238 :: []), []⟩ w := by
  obtain ⟨c0, c1, c2, c3, c4, c5, op, c6, c8, c10, c9, ht⟩ := htail
  unfold Try.f30 at ht
  simp only [Option.some.injEq, Code.seq.injEq, Code.cond.injEq] at ht
  obtain ⟨-, -, -, -, ⟨-, -, -, ⟨-, -, -, rfl⟩, -⟩, -⟩ := ht
  have HN : Hid (N ≠ 100) := hN1
  clear hN1
  have lG := hns.lt
  have d2 := hns.c2
  have d3 := hns.c3
  have z2 := hns.fz 2
  have z3 := hns.fz 3
  have hneB : Bk ≠ G := by omega
  have x1 : w.cell? ⟨Bk, 1, none⟩ = some (.bool BF) := by simp [World.cell?, hBk]
  have hneO : ov.ownBlock ≠ some G := fun e => by have := hgo G e; omega
  cases BF with
  | true =>
    obtain ⟨h1, h2⟩ := hBF rfl
    have H1 : Hid (f s = 123) := h1
    have H2 : Hid (m ≠ 31) := h2
    clear h1 h2 hBF
    go_upto_if 97 with fail
    go_cut [] (fun wx => wx = (w.setCell ⟨G, 2, none⟩ (.int .i64 (wrap64 (m + 1)))).setCell ⟨G, 3, none⟩ (.int .i64 (-1)))
    case first =>
      go_wp2_with fail
      go_meet
      rfl
    case rest =>
    have hw := hcut
    subst wc
    go_step
    refine takeP2 ⟨_, _, _, _, _, _, _, _, _, _, _, _, rfl⟩ G lo Bk sv ov N cl bd true (cof (f s)) (wrap64 (m + 1)) (-1) d w0 _ hN ?_ ((hns.s2 _).s3 _) ?_ hgo hG ((hb.setCell (p := ⟨G, 2, none⟩) hG _).setCell (p := ⟨G, 3, none⟩) hG _) _ ?_ _
    · simp [World.setCell, Array.getElem?_modify, hBk, Ne.symm hneB]
    · exact ownsRow_setCell_other (ownsRow_setCell_other hown (a := ⟨G, 2, none⟩) hneO _) (a := ⟨G, 3, none⟩) hneO _
    · exact .inr (.inr ⟨HN.out, rfl, rfl, rfl, fun i hi => ⟨upd_lt cl _ hi, upd_lt bd _ hi⟩, upd_at cl N _, rfl, rfl, rfl, .inl ⟨upd_at bd N _, H1.out, H2.out, rfl, rfl⟩⟩)
  | false =>
    clear hBF
    go_upto_if 97 with fail
    go_cut [] (fun wx => wx = w)
    case first =>
      go_wp2_with fail
      go_meet
      rfl
    case rest =>
    have hw := hcut
    subst wc
    go_step
    refine takeP2 ⟨_, _, _, _, _, _, _, _, _, _, _, _, rfl⟩ G lo Bk sv ov N cl bd false (cof (f s)) m b d w0 _ hN hBk hns hown hgo hG hb _ ?_ _
    exact .inr (.inr ⟨HN.out, rfl, rfl, rfl, fun i hi => ⟨upd_lt cl _ hi, upd_lt bd _ hi⟩, upd_at cl N _, rfl, rfl, rfl, .inr ⟨upd_at bd N _, rfl, rfl⟩⟩)

end Go.Proofs.Qxb6601609a
