import Derived.Test.Qxb6601609aScriptErr
import Derived.Test.Qxb6601609aScriptOk1
namespace Go.Proofs.Qxb6601609a
open Go.RowKit
set_option linter.unusedVariables false

/-- What stands at the head of a round. -/
def SI (f E : Nat → Nat) (lo n : Nat) (w : World) (x7 x8 x9 x10 x11 x12 x13 x14 x15 x16 : Value) (wr : World) : Prop :=
  ∃ (i N cc bc mc : Nat) (ca ba ma : Option Addr) (cl : Nat → Nat) (bd : Nat → Bool) (m b d k mf : Int), i ≤ n ∧ x7 = .slice ca N cc ∧ x8 = .slice ba N bc ∧ x9 = .int .i64 m ∧ x10 = .int .i64 b ∧ x11 = .int .i64 d ∧ x12 = .int .i64 k ∧ x13 = .int .i64 mf ∧
    x14 = .slice ma N mc ∧ x15 = .int .i64 (st E i) ∧ x16 = .int .i64 i ∧ Inv f E i N cl bd m b d k mf ∧ Rd wr ca N (fun j => .int .u8 (cl j)) ∧ Rd wr ba N (fun j => .bool (bd j)) ∧ wr.ownsRow lo 5 1 (.slice ma N mc) N (us cl N) ∧ Below lo w wr

theorem own5_below {w w' : World} {lo N : Nat} {ov : Value} {xs : List Value} (hown : w.ownsRow lo 5 1 ov N xs) (hb : Below w.heap.size w w') : w'.ownsRow lo 5 1 ov N xs := by
  have hown' := hown
  refine ⟨hown.1, ?_⟩
  rcases hown.2 with h | ⟨g, cap, cur, e, hg, hh, r⟩
  · exact .inl h
  · refine .inr ⟨g, cap, cur, e, hg, ?_, r⟩
    rw [hb.block g (hown'.lt g (by rw [e]; rfl)).2]
    exact hh

theorem StepSpec.mod {f : Nat → Nat} {s e N : Nat} {cl : Nat → Nat} {bd : Nat → Bool} {m b d k mf : Int} {o : Out2} (h : StepSpec f s e N cl bd m b d k mf o) (her : o.er = none) : (o.a != 0) = false ∧ ModStep (f s) N cl o.N o.cl := by
  obtain ⟨h1, h2⟩ := h.model her
  exact ⟨by rw [h1]; rfl, h2⟩

set_option maxRecDepth 100000 in
set_option maxHeartbeats 6400000 in
theorem script_loop {tail : Code} (htail : ∃ c0 c1 c2 c3 c4 c5 c6 c7, Try.f6.body = some (.seq c0 (.seq c1 (.seq c2 (.seq c3 (.seq c4 (.seq c5 (.seq c6 (.seq c7 tail)))))))))
    (sa ea : Option Addr) (sn n lo B0 : Nat) (f E : Nat → Nat) (w0 w : World) (hsn : sn ≤ 65536) (hn : n ≤ 4096) (hf : ∀ i, f i < 256) (hlo : lo = w.heap.size) (hb0 : Below B0 w0 w) (hB : B0 ≤ lo)
    (hs : 0 < n → ∃ sb soff, sa = some ⟨sb, soff, none⟩ ∧ sb < lo ∧ Has w sb soff sn f) (he : Rd w ea n (fun i => .int .i64 (E i))) (hE : ∀ i, i < n → st E i < E i ∧ E i ≤ sn)
    {u2 u3 u4 u5 u6 u7 u8 u9 u10 u11 u12 u13 u14 u15 u16 u17 u18 u19 u20 u21 u22 u23 u24 u25 u26 u27 u28 u29 u30 u31 u32 u33 u34 u35 u36 u37 u38 u39 u40 u41 u42 u43 u44 u45 u46 u47 u48 u49 u50 u51 u52 u53 u54 u55 u56 u57 u58 u59 u60 u61 u62 u63 u64 u65 u66 u67 u68 u69 u70 u71 u72 u73 u74 u75 u76 u77 u78 u79 u80 u81 u82 u83 u84 u85 u86 u87 u88 u89 u90 u91 u92 u93 u94 u95 u96 u97 u98 u99 u100 u101 u102 u103 u104 u105 u106 u107 u108 u109 u110 u111 u112 u113 u114 u115 u116 u117 u118 u119 u120 u121 u122 u123 u124 u125 u126 u127 u128 u129 u130 u131 u132 u133 u134 u135 u136 u137 u138 u139 u140 u141 u142 u143 u144 u145 u146 u147 u148 u149 u150 u151 u152 u153 u154 u155 u156 u157 u158 u159 u160 u161 u162 u163 u164 u165 u166 u167 u168 u169 u170 u171 u172 u173 u174 u175 u176 u177 u178 u179 u180 u181 u182 u183 u184 u185 u186 u187 u188 u189 u190 u191 u192 u193 u194 u195 u196 u197 u198 u199 u200 u201 u202 u203 u204 u205 u206 u207 u208 u209 u210 u211 u212 u213 u214 u215 u216 u217 u218 u219 u220 u221 u222 u223 u224 u225 u226 u227 u228 u229 u230 u231 u232 u233 u234 u235 u236 u237 u238 u239 u240 u241 u242 u243 u244 u245 u246 u247 u248 u249 u250 u251 u252 u253 u254 u255 u256 u257 u258 u259 u260 u261 u262 u263 u264 u265 u266 u267 u268 u269 u270 u271 u272 : Value} :
    Code.wp Try.prog tail (bodyPost Try.prog Try.f6 fun e1 w' => e1 = .returned (.bool true) ∧ Below B0 w0 w') ⟨List.toArray ((.slice sa sn sn) :: (.slice ea n n) :: u2 :: u3 :: u4 :: u5 :: u6 :: u7 :: u8 :: u9 :: u10 :: u11 :: u12 :: u13 :: u14 :: u15 :: u16 :: u17 :: u18 :: u19 :: u20 :: u21 :: u22 :: u23 :: u24 :: u25 :: u26 :: u27 :: u28 :: u29 :: u30 :: u31 :: u32 :: u33 :: u34 :: u35 :: u36 :: u37 :: u38 :: u39 :: u40 :: u41 :: u42 :: u43 :: u44 :: u45 :: u46 :: u47 :: u48 :: u49 :: u50 :: u51 :: u52 :: u53 :: u54 :: u55 :: u56 :: u57 :: u58 :: u59 :: u60 :: u61 :: u62 :: u63 :: u64 :: u65 :: u66 :: u67 :: u68 :: u69 :: u70 :: u71 :: u72 :: u73 :: u74 :: u75 :: u76 :: u77 :: u78 :: u79 :: u80 :: u81 :: u82 :: u83 :: u84 :: u85 :: u86 :: u87 :: u88 :: u89 :: u90 :: u91 :: u92 :: u93 :: u94 :: u95 :: u96 :: u97 :: u98 :: u99 :: u100 :: u101 :: u102 :: u103 :: u104 :: u105 :: u106 :: u107 :: u108 :: u109 :: u110 :: u111 :: u112 :: u113 :: u114 :: u115 :: u116 :: u117 :: u118 :: u119 :: u120 :: u121 :: u122 :: u123 :: u124 :: u125 :: u126 :: u127 :: u128 :: u129 :: u130 :: u131 :: u132 :: u133 :: u134 :: u135 :: u136 :: u137 :: u138 :: u139 :: u140 :: u141 :: u142 :: u143 :: u144 :: u145 :: u146 :: u147 :: u148 :: u149 :: u150 :: u151 :: u152 :: u153 :: u154 :: u155 :: u156 :: u157 :: u158 :: u159 :: u160 :: u161 :: u162 :: u163 :: u164 :: u165 :: u166 :: u167 :: u168 :: u169 :: u170 :: u171 :: u172 :: u173 :: u174 :: u175 :: u176 :: u177 :: u178 :: u179 :: u180 :: u181 :: u182 :: u183 :: u184 :: u185 :: u186 :: u187 :: u188 :: u189 :: u190 :: u191 :: u192 :: u193 :: u194 :: u195 :: u196 :: u197 :: u198 :: u199 :: u200 :: u201 :: u202 :: u203 :: u204 :: u205 :: u206 :: u207 :: u208 :: u209 :: u210 :: u211 :: u212 :: u213 :: u214 :: u215 :: u216 :: u217 :: u218 :: u219 :: u220 :: u221 :: u222 :: u223 :: u224 :: u225 :: u226 :: u227 :: u228 :: u229 :: u230 :: u231 :: u232 :: u233 :: u234 :: u235 :: u236 :: u237 :: u238 :: u239 :: u240 :: u241 :: u242 :: u243 :: u244 :: u245 :: u246 :: u247 :: u248 :: u249 :: u250 :: u251 :: u252 :: u253 :: u254 :: u255 :: u256 :: u257 :: u258 :: u259 :: u260 :: u261 :: u262 :: u263 :: u264 :: u265 :: u266 :: u267 :: u268 :: u269 :: u270 :: u271 :: u272 :: []), []⟩ w := by
  obtain ⟨c0, c1, c2, c3, c4, c5, c6, c7, ht⟩ := htail
  unfold Try.f6 at ht
  simp only [Option.some.injEq, Code.seq.injEq] at ht
  obtain ⟨-, -, -, -, -, -, -, -, rfl⟩ := ht
  go_wp2_with fail
  go_loopw [7, 8, 9, 10, 11, 12, 13, 14, 15, 16] (SI f E lo n w) (fun _ _ _ _ _ _ _ _ _ x16 _ => n - (intOf x16).toNat)
  case atStart =>
    exact ⟨0, 0, 0, 0, 0, none, none, none, fun _ => 0, fun _ => false, 0, -1, -1, -1, -1, by omega, rfl, rfl, rfl, rfl, rfl, rfl, rfl, rfl, rfl, rfl, Inv.start f E _ _, ⟨fun h => absurd h (by omega)⟩, ⟨fun h => absurd h (by omega)⟩, World.ownsRow_nil _ _ _ _, Below.refl _ _⟩
  case round =>
    obtain ⟨i, N, cc, bc, mc, ca, ba, ma, cl, bd, m, b, d, k, mf, hi, rfl, rfl, rfl, rfl, rfl, rfl, rfl, rfl, rfl, rfl, hinv, hca, hba, hma, hbl⟩ := hrel
    by_cases hlt : i < n
    · obtain ⟨sb, soff, rfl, hsb, hsrc⟩ := hs (by omega)
      obtain ⟨eb, eo, rfl, hel, hec⟩ := he.at_ (by omega)
      have hEi := hE i hlt
      have x1 : wr.cell? ⟨eb, eo + i, none⟩ = some (.int .i64 (E i)) := (hbl.cell (p := ⟨eb, eo + i, none⟩) (by rw [hlo]; exact hel)).trans (hec i hlt)
      have hsr := hsrc.below hbl hsb
      have x2 : wr.cell? ⟨sb, soff + st E i, none⟩ = some (.int .u8 (f (st E i))) := hsr.cell (st E i) (by omega)
      have g0 : (0 : Int) ≤ (i : Int) := by omega
      have g1 : (i : Int) < (n : Int) := by omega
      have g2 : (0 : Int) ≤ (st E i : Int) := by omega
      have g3 : (st E i : Int) < (sn : Int) := by omega
      have hN := hinv.hN
      have hszr : lo ≤ wr.heap.size := by rw [hlo]; exact hbl.size
      have HZ := zz_any sb soff sn sn (st E i) (E i) f ca ba N cc bc cl bd m b d k mf wr (by omega) hEi.1 hEi.2 (Nat.le_refl _) hsn (by omega) hsr hca hba
      have HE : Hid (∀ i, i < n → st E i < E i ∧ E i ≤ sn) := hE
      clear hs hec hE
      go_upto_region 29 with (first | (go_at_call 17; refine (modelCloser_any _ _).mono ?_; rintro e1 w' ⟨rfl, hw'⟩; subst w') | (go_at_call 18; refine HZ.mono ?_; rintro e1 w2 ⟨o, er, cb, bb, hRo, rfl, hcb, hbb, hrc, hrb, her, hb2⟩))
      have hbw : Below lo w w2 := hbl.trans (hb2.mono hszr)
      have hb00 : Below B0 w0 w2 := hb0.trans (hbw.mono hB)
      have hma2 := own5_below hma hb2
      have hne : ∀ g, (Value.slice ma N mc).ownBlock = some g → g < cb ∧ g < bb := fun g hg => by
        have := (hma.lt g hg).2
        omega
      have hsr2 := hsrc.below hbw hsb
      have he2 : Rd w2 (some ⟨eb, eo, none⟩) n (fun i => .int .i64 (E i)) := he.size (by rw [← hlo]; exact hbw)
      have hlo2 : lo ≤ w2.heap.size := Nat.le_trans hszr hb2.size
      clear HZ x1 x2 hsr hsrc hma hca hba hb2 he
      rcases hx : o.er with _ | ⟨lim, got, mx⟩
      · rw [hx] at her
        have e1 : er = none := her
        subst e1
        obtain ⟨hoa, hmod⟩ := hRo.mod hx
        have hinv2 := hinv.step hRo hx
        clear hRo hx hinv her
        go_upto_if 111 with fail
        go_cut [] (fun wx => wx = w2)
        case first =>
          go_wp2_with fail
          go_meet
          rfl
        case rest =>
          have hw := hcut
          subst wc
          go_step
          refine ok1 ⟨_, _, _, _, _, _, _, _, _, _, _, _, _, _, _, _, _, _, _, _, _, _, _, rfl⟩ lo cb bb N o.N mc (f (st E i)) ma _ _ _ (E i) o.a o.m o.b o.d o.k o.f cl o.cl o.bd w2 hN hinv2.hN hinv2.hm hinv2.h31 hinv2.hbd hrc hrb hma2 hlo2 hne hoa hmod _ ?_
          intro ma' mc' w' h1 h2 h3 h4
          intros
          go_wp2_with fail
          go_roundw
          case rel => exact ⟨i + 1, o.N, o.N, o.N, mc', _, _, ma', o.cl, o.bd, o.m, o.b, o.d, o.k, o.f, by omega, rfl, rfl, rfl, rfl, rfl, rfl, rfl, rfl, rfl, by go_num, hinv2, h2, h3, h1, hbw.trans h4⟩
          case measure => simp [intOf]; omega
      · rw [hx] at her
        obtain ⟨q, rfl, hq⟩ := her
        obtain ⟨hcz, hr⟩ := hRo.refused hinv hx
        rcases hr with ⟨h100, rfl, rfl, rfl, ha⟩ | ⟨h100, rfl, rfl, rfl, hm, p, hp, ha, htok⟩
        · go_upto_if 111 with fail
          exact err1 ⟨_, _, _, _, _, _, _, _, _, _, _, _, _, _, _, _, _, _, _, _, _, _, _, _, rfl⟩ sb soff sn eb eo n i N q m o.a f E w2 hcz h100 hq ha (fun e1 w' => e1 = .returned (.bool true) ∧ Below B0 w0 w') (fun w' hd => by obtain ⟨qq, rfl⟩ := hd; exact ⟨rfl, below_dr hb00 qq⟩) _ (by intro _ _ h; exact h)
        · have Hm : Hid (m = 31) := hm
          clear hm
          go_upto_if 111 with fail
          exact err2 ⟨_, _, _, _, _, _, _, _, _, _, _, _, _, _, _, _, _, _, _, _, _, _, _, _, rfl⟩ sb soff sn eb eo n i N q m o.a f E w2 hcz h100 hq Hm.out p hp hlt ha htok hn hsn hf HE.out hsr2 he2 (fun e1 w' => e1 = .returned (.bool true) ∧ Below B0 w0 w') (fun w' hd => by obtain ⟨qq, rfl⟩ := hd; exact ⟨rfl, below_dr hb00 qq⟩) _ (by intro _ _ h; exact h)
    · have e1 : i = n := by omega
      subst e1
      have hbw : Below B0 w0 wr := hb0.trans (hbl.mono hB)
      clear hs he hE hca hba hma hinv
      go_wp2_with fail
      go_ret
      exact ⟨rfl, hbw⟩

end Go.Proofs.Qxb6601609a
