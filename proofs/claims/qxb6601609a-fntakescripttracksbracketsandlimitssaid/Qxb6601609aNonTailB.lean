import Derived.Test.Qxb6601609aTakeNon
import Derived.Test.Qxb6601609aSmall
namespace Go.Proofs.Qxb6601609a
open Go.RowKit
set_option linter.unusedVariables false

theorem Has.sub {w : World} {b off n : Nat} {f : Nat → Nat} (h : Has w b off n f) {s e : Nat} (he : e ≤ n) : Has w b (off + s) (e - s) (fun i => f (s + i)) :=
  ⟨fun i hi => by rw [show off + s + i = off + (s + i) by omega]; exact h.cell (s + i) (by omega)⟩
theorem Has.drewN {w : World} {b off n : Nat} {f : Nat → Nat} (h : Has w b off n f) (d : Nat) : Has (w.drewN d) b off n f := ⟨fun i hi => h.cell i hi⟩
/-- What sameText answers of a token. -/
theorem same_tok (sb soff sn c s e : Nat) (f : Nat → Nat) (S : ByteArray) (w : World) (hen : e ≤ sn) (hsn : sn ≤ 65536) (hS : S.size ≤ 100) (hf : ∀ i, f i < 256) (h : Has w sb soff sn f) :
    Calls Try.prog 24 #[.slice (some ⟨sb, soff + s, none⟩) (e - s) c, .string S] w fun e1 w' => ∃ (B : Bool) (d : Nat), e1 = .returned (.bool B) ∧ (B = true ↔ tokStr f s (e - s) = S) ∧ w' = w.drewN d := by
  refine (sameText_any sb (soff + s) (e - s) c (fun i => f (s + i)) S w (by omega) hS (h.sub hen)).mono ?_
  rintro e1 w' ⟨B, d, he, hB, hw⟩
  exact ⟨B, d, he, hB.trans (tokStr_is f s (e - s) S hf).symm, hw⟩
/-- Whether the token reads so. -/
def tokB (f : Nat → Nat) (s e : Nat) (S : ByteArray) : Bool := decide (tokStr f s (e - s) = S)
theorem tokB_yes {f : Nat → Nat} {s e : Nat} {S : ByteArray} (h : tokStr f s (e - s) = S) : tokB f s e S = true := decide_eq_true h
theorem tokB_no {f : Nat → Nat} {s e : Nat} {S : ByteArray} (h : tokStr f s (e - s) ≠ S) : tokB f s e S = false := decide_eq_false h
theorem same_b (sb soff sn c s e : Nat) (f : Nat → Nat) (S : ByteArray) (w : World) (hen : e ≤ sn) (hsn : sn ≤ 65536) (hS : S.size ≤ 100) (hf : ∀ i, f i < 256) (h : Has w sb soff sn f) :
    Calls Try.prog 24 #[.slice (some ⟨sb, soff + s, none⟩) (e - s) c, .string S] w fun e1 w' => e1 = .returned (.bool (tokB f s e S)) ∧ ∃ d : Nat, w' = w.drewN d := by
  refine (same_tok sb soff sn c s e f S w hen hsn hS hf h).mono ?_
  rintro e1 w' ⟨B, d, he, hB, hw⟩
  refine ⟨?_, d, hw⟩
  rw [he]
  cases B with
  | true => rw [tokB_yes (hB.1 rfl)]
  | false => rw [tokB_no (fun h => by have := hB.2 h; cases this)]
/-- Only draws lie between. -/
def Dr (w w' : World) : Prop := ∃ q, w' = w.drewN q
theorem Dr.refl (w : World) : Dr w w := ⟨0, rfl⟩
theorem Dr.drewN {w w' : World} (h : Dr w w') (q : Nat) : Dr w (w'.drewN q) := by
  obtain ⟨p, rfl⟩ := h
  exact ⟨p + q, by simp⟩
theorem first_word {f : Nat → Nat} {s e : Nat} (hf : ∀ i, f i < 256) (h : MsgTok f s e ∨ MapTok f s e) : Word (f s) := by
  have go : ∀ S : ByteArray, tokStr f s (e - s) = S → ∀ hS : 0 < S.size, f s = (S[0]).toNat := fun S hS h0 => ((tokStr_is f s (e - s) S hf).1 hS).2 0 h0
  rcases h with (h | h) | h
  · have h1 : f s = 109 := go _ h (by decide)
    unfold Word; omega
  · have h1 : f s = 103 := go _ h (by decide)
    unfold Word; omega
  · have h1 : f s = 109 := go _ h (by decide)
    unfold Word; omega
theorem msg_ne : (⟨#[103, 114, 111, 117, 112]⟩ : ByteArray) ≠ ⟨#[109, 101, 115, 115, 97, 103, 101]⟩ := by decide

set_option maxRecDepth 100000 in
set_option maxHeartbeats 3200000 in
theorem non_tailB {tail : Code} (htail : ∃ c0 c1 c2 c3 c4 c5 c6 c7 c8 c9 c10 c11 c12 c13 c14 c15 c16 c17 c18 c19 c20 c21, Try.f7.body = some (.seq c0 (.seq c1 (.seq c2 (.seq c3 (.seq c4 (.seq c5 (.seq c6 (.seq c7 (.seq c8 (.seq c9 (.seq c10 (.seq c11 (.seq c12 (.seq c13 (.seq c14 (.seq c15 (.seq c16 (.seq c17 (.seq c18 (.seq c19 (.seq c20 (.seq c21 tail))))))))))))))))))))))) (sb soff sn sc s e N B0 : Nat) (f : Nat → Nat) (b d k b2 d2 k2 f2 : Int) (w0 w : World) (hse : s < e) (hen : e ≤ sn) (hnc : sn ≤ sc) (hsn : sn ≤ 65536) (hN : N ≤ 4096) (hf : ∀ i, f i < 256)
    (h : Has w sb soff sn f) (hb : Below B0 w0 w)
    (hkey : (k2 = -1 ∧ f2 = -1) ∨ (k2 = s ∧ f2 = -1 ∧ MsgTok f s e) ∨ (k2 = -1 ∧ f2 = s ∧ MapTok f s e))
    (hbod : (b2 = b ∧ d2 = d) ∨ (b2 = -1 ∧ d2 = d ∧ ¬ Word (f s)) ∨ (0 ≤ k ∧ Word (f s) ∧ b2 = N ∧ d2 = k))
    {u1 u2 u3 u7 u10 u11 u12 u13 u14 u15 u16 u17 u18 u19 u20 u22 u23 u24 u25 u26 u32 u33 u34 u35 u36 u37 u38 u39 u40 u41 u42 u43 u44 u45 u46 u47 u48 u49 u50 u51 u52 u53 u54 u55 u56 u57 u58 u59 u60 u61 u62 u63 u64 u65 u66 u67 u68 u69 u70 u71 u72 u73 u74 u75 u76 u77 u78 u79 u80 u81 u82 u83 u84 u85 u86 u87 u88 u89 u90 u91 u92 u93 u94 u95 u96 u97 u98 u99 u100 u101 u102 u103 u104 u105 u106 u107 u108 u109 u110 u111 u112 u113 u114 u115 u116 u117 u118 u119 u120 u121 u122 u123 u124 u125 u126 u127 u128 u129 u130 u131 u132 u133 u134 u135 u136 u137 u138 u139 u140 u141 u142 u143 u144 u145 u146 u147 u148 u149 u150 u151 u152 u153 u154 u155 u156 u157 u158 u159 u160 u161 u162 u163 u164 u165 u166 u167 u168 u169 u170 u171 u172 u173 u174 u175 u176 u177 u178 u179 u180 u181 u182 u183 u184 u185 u186 u187 u188 u189 u190 u191 u192 u193 u194 u195 u196 u197 u198 u199 u200 u201 u202 u203 u204 u205 u206 u207 u208 u209 u210 u211 u212 u213 u214 u215 u216 u217 u218 u219 u220 u221 u222 u223 u224 u225 u226 u227 u228 u229 u230 u231 u232 u233 u234 u235 u236 u237 u238 u239 u240 u241 u242 u243 : Value} :
    Code.wp Try.prog tail (bodyPost Try.prog Try.f7 fun e1 w' => e1 = .returned (.bool true) ∧ Below B0 w0 w') ⟨List.toArray ((.slice (some ⟨sb, soff, none⟩) sn sc) :: u1 :: u2 :: u3 :: (.int .i64 b) :: (.int .i64 d) :: (.int .i64 k) :: u7 :: (.int .i64 s) :: (.int .i64 e) :: u10 :: u11 :: u12 :: u13 :: u14 :: u15 :: u16 :: u17 :: u18 :: u19 :: u20 :: (.int .u8 (f s)) :: u22 :: u23 :: u24 :: u25 :: u26 :: (.int .i64 b2) :: (.int .i64 d2) :: (.int .i64 k2) :: (.int .i64 f2) :: (.int .i64 N) :: u32 :: u33 :: u34 :: u35 :: u36 :: u37 :: u38 :: u39 :: u40 :: u41 :: u42 :: u43 :: u44 :: u45 :: u46 :: u47 :: u48 :: u49 :: u50 :: u51 :: u52 :: u53 :: u54 :: u55 :: u56 :: u57 :: u58 :: u59 :: u60 :: u61 :: u62 :: u63 :: u64 :: u65 :: u66 :: u67 :: u68 :: u69 :: u70 :: u71 :: u72 :: u73 :: u74 :: u75 :: u76 :: u77 :: u78 :: u79 :: u80 :: u81 :: u82 :: u83 :: u84 :: u85 :: u86 :: u87 :: u88 :: u89 :: u90 :: u91 :: u92 :: u93 :: u94 :: u95 :: u96 :: u97 :: u98 :: u99 :: u100 :: u101 :: u102 :: u103 :: u104 :: u105 :: u106 :: u107 :: u108 :: u109 :: u110 :: u111 :: u112 :: u113 :: u114 :: u115 :: u116 :: u117 :: u118 :: u119 :: u120 :: u121 :: u122 :: u123 :: u124 :: u125 :: u126 :: u127 :: u128 :: u129 :: u130 :: u131 :: u132 :: u133 :: u134 :: u135 :: u136 :: u137 :: u138 :: u139 :: u140 :: u141 :: u142 :: u143 :: u144 :: u145 :: u146 :: u147 :: u148 :: u149 :: u150 :: u151 :: u152 :: u153 :: u154 :: u155 :: u156 :: u157 :: u158 :: u159 :: u160 :: u161 :: u162 :: u163 :: u164 :: u165 :: u166 :: u167 :: u168 :: u169 :: u170 :: u171 :: u172 :: u173 :: u174 :: u175 :: u176 :: u177 :: u178 :: u179 :: u180 :: u181 :: u182 :: u183 :: u184 :: u185 :: u186 :: u187 :: u188 :: u189 :: u190 :: u191 :: u192 :: u193 :: u194 :: u195 :: u196 :: u197 :: u198 :: u199 :: u200 :: u201 :: u202 :: u203 :: u204 :: u205 :: u206 :: u207 :: u208 :: u209 :: u210 :: u211 :: u212 :: u213 :: u214 :: u215 :: u216 :: u217 :: u218 :: u219 :: u220 :: u221 :: u222 :: u223 :: u224 :: u225 :: u226 :: u227 :: u228 :: u229 :: u230 :: u231 :: u232 :: u233 :: u234 :: u235 :: u236 :: u237 :: u238 :: u239 :: u240 :: u241 :: u242 :: u243 :: []), []⟩ w := by
  obtain ⟨c0, c1, c2, c3, c4, c5, c6, c7, c8, c9, c10, c11, c12, c13, c14, c15, c16, c17, c18, c19, c20, c21, ht⟩ := htail
  unfold Try.f7 at ht
  simp only [Option.some.injEq, Code.seq.injEq] at ht
  obtain ⟨_, _, _, _, _, _, _, _, _, _, _, _, _, _, _, _, _, _, _, _, _, _, rfl⟩ := ht
  have g0 : (0 : Int) ≤ (s : Int) := by omega
  have g1 : (s : Int) ≤ (e : Int) := by omega
  have g2 : (e : Int) ≤ (sc : Int) := by omega
  have g3 : (e : Int) ≤ (sn : Int) := by omega
  have HK : Hid ((k2 = -1 ∧ f2 = -1) ∨ (k2 = s ∧ f2 = -1 ∧ MsgTok f s e) ∨ (k2 = -1 ∧ f2 = s ∧ MapTok f s e)) := hkey
  have HB : Hid ((b2 = b ∧ d2 = d) ∨ (b2 = -1 ∧ d2 = d ∧ ¬ Word (f s)) ∨ (0 ≤ k ∧ Word (f s) ∧ b2 = N ∧ d2 = k)) := hbod
  clear hkey hbod
  go_upto_region 37 with fail
  go_cut [183] (fun t wx => t = .bool false ∧ Dr w wx)
  case first =>
    rcases HK.out with ⟨e1, e2⟩ | ⟨e1, e2, e3⟩ | ⟨e1, e2, e3⟩
    · clear e2
      subst e1
      go_wp2_with fail
      go_meet
      exact ⟨rfl, Dr.refl _⟩
    · clear e2
      subst e1
      have t1 : ((s : Int) != -1) = true := by simp
      have t2 : ((s : Int) != (s : Int)) = false := by simp
      rcases e3 with e3 | e3
      · have q1 := tokB_yes e3
        clear e3
        go_wp2_with (go_at_call 24; refine (same_b sb soff sn _ s e f _ _ hen hsn (by decide) hf (by first | exact h | exact h.drewN _)).mono ?_; rintro e1 w' ⟨rfl, dd, hw'⟩; subst w')
        go_meet
        exact ⟨rfl, (Dr.refl _).drewN _⟩
      · have q1 : tokB f s e ⟨#[109, 101, 115, 115, 97, 103, 101]⟩ = false := tokB_no (by rw [e3]; exact msg_ne)
        have q2 := tokB_yes e3
        clear e3
        go_wp2_with (go_at_call 24; refine (same_b sb soff sn _ s e f _ _ hen hsn (by decide) hf (by first | exact h | exact h.drewN _)).mono ?_; rintro e1 w' ⟨rfl, dd, hw'⟩; subst w')
        go_meet
        exact ⟨rfl, (Dr.refl _).drewN _⟩
    · clear e2 e3
      subst e1
      go_wp2_with fail
      go_meet
      exact ⟨rfl, Dr.refl _⟩
  case rest =>
    obtain ⟨rfl, q, hwc⟩ := hcut
    subst wc
    go_upto_region 39 with fail
    go_cut [195] (fun t wx => t = .bool false ∧ Dr w wx)
    case first =>
      rcases HK.out with ⟨e1, e2⟩ | ⟨e1, e2, e3⟩ | ⟨e1, e2, e3⟩
      · clear e1
        subst e2
        go_wp2_with fail
        go_meet
        exact ⟨rfl, (Dr.refl _).drewN _⟩
      · clear e1 e3
        subst e2
        go_wp2_with fail
        go_meet
        exact ⟨rfl, (Dr.refl _).drewN _⟩
      · clear e1
        subst e2
        have t1 : ((s : Int) != -1) = true := by simp
        have t2 : ((s : Int) != (s : Int)) = false := by simp
        have q1 := tokB_yes e3
        clear e3
        go_wp2_with (go_at_call 24; refine (same_b sb soff sn _ s e f _ _ hen hsn (by decide) hf (by first | exact h | exact h.drewN _)).mono ?_; rintro e1 w' ⟨rfl, dd, hw'⟩; subst w')
        go_meet
        exact ⟨rfl, (Dr.refl _).drewN _⟩
    case rest =>
      obtain ⟨rfl, q, hwc⟩ := hcut
      subst wc
      go_upto_region 41 with fail
      go_cut [201] (fun t wx => t = .bool false ∧ wx = w.drewN q)
      case first =>
        rcases HK.out with ⟨e1, e2⟩ | ⟨e1, e2, e3⟩ | ⟨e1, e2, e3⟩
        · clear e2
          subst e1
          go_wp2_with fail
          go_meet
          exact ⟨rfl, rfl⟩
        · clear e3
          subst e1 e2
          have t1 : ((s : Int) != -1) = true := by simp
          go_wp2_with fail
          go_meet
          exact ⟨rfl, rfl⟩
        · clear e2 e3
          subst e1
          go_wp2_with fail
          go_meet
          exact ⟨rfl, rfl⟩
      case rest =>
        obtain ⟨rfl, hwc⟩ := hcut
        subst wc
        by_cases hw : Word (f s)
        · have HW : Hid (Word (f s)) := hw
          rcases HB.out with ⟨e1, e2⟩ | ⟨_, _, hn⟩ | ⟨hk, _, e1, e2⟩
          · subst e1 e2
            clear hw
            have t1 : (b2 == b2) = true := by simp
            have t2 : (d2 == d2) = true := by simp
            go_wp2_with (go_at_call 25; refine (name_yes _ _ HW.out).mono ?_; rintro e1 w' ⟨rfl, hw'⟩; subst w')
            go_ret
            exact ⟨rfl, below_dr hb q⟩
          · exact absurd hw hn
          · subst e1 e2
            clear hw
            have t3 : decide ((0 : Int) ≤ d2) = true := decide_eq_true hk
            have t4 : ((N : Int) == (N : Int)) = true := by simp
            have t5 : (d2 == d2) = true := by simp
            by_cases p1 : (N : Int) = b
            · have t1 : ((N : Int) == b) = true := by simp [p1]
              by_cases p2 : d2 = d
              · have t2 : (d2 == d) = true := by simp [p2]
                clear p1 p2
                go_wp2_with (go_at_call 25; refine (name_yes _ _ HW.out).mono ?_; rintro e1 w' ⟨rfl, hw'⟩; subst w')
                go_ret
                exact ⟨rfl, below_dr hb q⟩
              · have t2 : (d2 == d) = false := by simp [p2]
                clear p1 p2
                go_wp2_with (go_at_call 25; refine (name_yes _ _ HW.out).mono ?_; rintro e1 w' ⟨rfl, hw'⟩; subst w')
                go_ret
                exact ⟨rfl, below_dr hb q⟩
            · have t1 : ((N : Int) == b) = false := by simp [p1]
              clear p1
              go_wp2_with (go_at_call 25; refine (name_yes _ _ HW.out).mono ?_; rintro e1 w' ⟨rfl, hw'⟩; subst w')
              go_ret
              exact ⟨rfl, below_dr hb q⟩
        · have HW : Hid (¬ Word (f s)) := hw
          obtain ⟨rfl, rfl⟩ : k2 = -1 ∧ f2 = -1 := by
            rcases HK.out with h1 | ⟨_, _, h3⟩ | ⟨_, _, h3⟩
            · exact h1
            · exact absurd (first_word hf (.inl h3)) hw
            · exact absurd (first_word hf (.inr h3)) hw
          rcases HB.out with ⟨e1, e2⟩ | ⟨e1, e2, _⟩ | ⟨_, hn, _⟩
          · subst e1 e2
            clear hw
            have t1 : (b2 == b2) = true := by simp
            have t2 : (d2 == d2) = true := by simp
            go_wp2_with (go_at_call 25; refine (name_no _ _ HW.out).mono ?_; rintro e1 w' ⟨rfl, hw'⟩; subst w')
            go_ret
            exact ⟨rfl, below_dr hb q⟩
          · subst e1 e2
            clear hw
            have t2 : (d2 == d2) = true := by simp
            by_cases p1 : (-1 : Int) = b
            · have t1 : ((-1 : Int) == b) = true := by simp [p1]
              clear p1
              go_wp2_with (go_at_call 25; refine (name_no _ _ HW.out).mono ?_; rintro e1 w' ⟨rfl, hw'⟩; subst w')
              go_ret
              exact ⟨rfl, below_dr hb q⟩
            · have t1 : ((-1 : Int) == b) = false := by simp [p1]
              clear p1
              go_wp2_with (go_at_call 25; refine (name_no _ _ HW.out).mono ?_; rintro e1 w' ⟨rfl, hw'⟩; subst w')
              go_ret
              exact ⟨rfl, below_dr hb q⟩
          · exact absurd hn hw
end Go.Proofs.Qxb6601609a
