import Derived.Test.Qxb6601609aTakeDefs
namespace Go.Proofs.Qxb6601609a
open Go.RowKit
set_option linter.unusedVariables false

/-- The token as a string. -/
def tokStr (f : Nat → Nat) (s n : Nat) : ByteArray := strOfNums ((List.range n).map fun i => (f (s + i) : Int))

theorem tokStr_is (f : Nat → Nat) (s n : Nat) (S : ByteArray) (hf : ∀ i, f i < 256) : tokStr f s n = S ↔ TextIs (fun i => f (s + i)) n S := by
  have hsz : (tokStr f s n).size = n := by unfold tokStr; rw [strOfNums_size]; simp
  have hget : ∀ k (hk : k < (tokStr f s n).size), ((tokStr f s n)[k]).toNat = f (s + k) := by
    intro k hk
    have : (tokStr f s n)[k] = UInt8.ofNat (f (s + k)) := by
      show ((tokStr f s n).data)[k]'hk = _
      simp [tokStr, strOfNums]
    rw [this]
    have := hf (s + k)
    simp [UInt8.toNat_ofNat']
    omega
  constructor
  · rintro rfl
    exact ⟨hsz.symm, fun k hk => (hget k hk).symm⟩
  · rintro ⟨h1, h2⟩
    apply ByteArray.ext
    apply Array.ext
    · show (tokStr f s n).size = S.size
      omega
    · intro i hi hj
      have hi' : i < (tokStr f s n).size := hi
      have hj' : i < S.size := hj
      apply UInt8.toNat_inj.1
      exact (hget i hi').trans (h2 i hj')

theorem ba_loop (bs : ByteArray) : ∀ (n i : Nat) (r : List UInt8), bs.size - i = n → ByteArray.toList.loop bs i r = r.reverse ++ bs.data.toList.drop i := by
  intro n
  induction n with
  | zero =>
    intro i r h
    rw [ByteArray.toList.loop]
    rw [if_neg (by omega), List.drop_eq_nil_of_le (by show bs.size ≤ i; omega), List.append_nil]
  | succ n ih =>
    intro i r h
    rw [ByteArray.toList.loop]
    rw [if_pos (by omega), ih (i + 1) _ (by omega)]
    have hi : i < bs.data.toList.length := by show i < bs.size; omega
    rw [List.drop_eq_getElem_cons hi]
    have : bs.get! i = bs.data.toList[i] := by
      show bs.data[i]! = _
      rw [getElem!_pos bs.data i (by show i < bs.size; omega)]
      simp
    rw [this]
    simp
theorem ba_toList (bs : ByteArray) : bs.toList = bs.data.toList := by
  unfold ByteArray.toList
  rw [ba_loop bs _ 0 [] rfl]
  simp
theorem ba_eq {bs : ByteArray} {l : List UInt8} (h : bs.toList = l) : bs = ⟨⟨l⟩⟩ := by
  rw [ba_toList] at h
  subst h
  rfl

/-- Any other token. -/
def CO (TS : ByteArray) (N s : Nat) (m b d : Int) (o : Out) : Prop :=
  (o = ⟨N, m, b, d, s, -1⟩ ∧ (TS = ⟨#[109, 101, 115, 115, 97, 103, 101]⟩ ∨ TS = ⟨#[103, 114, 111, 117, 112]⟩)) ∨ (o = ⟨N, m, b, d, -1, s⟩ ∧ TS = ⟨#[109, 97, 112]⟩) ∨ o = ⟨N, m, b, d, -1, -1⟩
def TNC (G lo : Nat) (sv : Value) (cl : Nat → Nat) (bd : Nat → Bool) (R : Out → Prop) (w : World) (e : Ending) (w' : World) : Prop :=
  ∃ o, R o ∧ TN G lo sv cl bd o w e w'

set_option maxRecDepth 100000 in
set_option maxHeartbeats 3200000 in
theorem takeC1 (G lo sb soff sn sc s e : Nat) (ov : Value) (N : Nat) (cl : Nat → Nat) (bd : Nat → Bool) (f : Nat → Nat) (m b d k mf : Int) (w : World) (hse : s < e) (hen : e ≤ sn) (hnc : sn ≤ sc) (hsn : sn ≤ 65536) (hN : N ≤ 4096)
    (hsb : sb < G) (h : Has w sb soff sn f) (hns : NS w G (.slice (some ⟨sb, soff, none⟩) sn sc) ov m b d k mf) (hown : w.ownsRow lo 47 2 ov N (brs cl bd N)) (hgo : ∀ g, ov.ownBlock = some g → g < G)
    (hcz : cof (f s) = 0) (hcl : ¬ Closer (f s)) (h59 : f s ≠ 59) (hk : 0 ≤ k) (hw : Word (f s)) :
    Calls Try.prog 30 #[.pointer (some ⟨G, 0, none⟩), .int .i64 s, .int .i64 e] w (TN G lo (.slice (some ⟨sb, soff, none⟩) sn sc) cl bd ⟨N, m, N, k, -1, -1⟩ w) := by
  have c0 := hns.c0
  have c5 := hns.c5
  have c6 := hns.c6
  have z5 := hns.fz 5
  have z6 := hns.fz 6
  have g0 : (0 : Int) ≤ (s : Int) := by omega
  have g1 : (s : Int) ≤ (e : Int) := by omega
  have g2 : (e : Int) ≤ (sc : Int) := by omega
  have g3 : (e : Int) ≤ (sn : Int) := by omega
  go_enter Try.func30, Try.ntmps30
  go_wp2_with fail
  go_quiet (fail)
  have hc1 : w.cell? ⟨sb, soff + s, none⟩ = some (.int .u8 (f s)) := h.cell s (by omega)
  go_wp2_with fail
  refine (closerOf_zero _ _ hcz).mono ?_
  rintro e1 w' ⟨rfl, hw'⟩
  subst w'
  have hns1 : NS (((w.drewN nq).setCell ⟨G, 5, none⟩ (.int .i64 (-1))).setCell ⟨G, 6, none⟩ (.int .i64 (-1))) G (.slice (some ⟨sb, soff, none⟩) sn sc) ov m b d (-1) (-1) := ((hns.drewN nq).s5 (-1)).s6 (-1)
  have hb1 : Below G w (((w.drewN nq).setCell ⟨G, 5, none⟩ (.int .i64 (-1))).setCell ⟨G, 6, none⟩ (.int .i64 (-1))) := ((below_dr (Below.refl G w) nq).setCell (p := ⟨G, 5, none⟩) (Nat.le_refl _) _).setCell (p := ⟨G, 6, none⟩) (Nat.le_refl _) _
  generalize ((w.drewN nq).setCell ⟨G, 5, none⟩ (.int .i64 (-1))).setCell ⟨G, 6, none⟩ (.int .i64 (-1)) = w1 at *
  have hown1 := own_below hown hgo hb1
  have hh1 := h.below hb1 hsb
  have hc2 : w1.cell? ⟨sb, soff + s, none⟩ = some (.int .u8 (f s)) := hh1.cell s (by omega)
  have d1 := hns1.c1
  have d2 := hns1.c2
  have d3 := hns1.c3
  have d4 := hns1.c4
  have z1 := hns1.fz 1
  have z2 := hns1.fz 2
  have z3 := hns1.fz 3
  have z4 := hns1.fz 4
  have y5 := hns1.fz 5
  have y6 := hns1.fz 6
  have d5 := hns1.c5
  have d6 := hns1.c6
  have g4 : (0 : Int) < (e : Int) - (s : Int) := by omega
  clear c0 c5 c6 z5 z6 hc1 hown h hns
  obtain ⟨oa, cap, rfl, hNc, hrd⟩ := open_read hown1
  have t1 : ((f s : Int) == 125) = false := eqf (k := 125) (fun h => hcl (by unfold Closer; omega))
  have t2 : ((f s : Int) == 93) = false := eqf (k := 93) (fun h => hcl (by unfold Closer; omega))
  have t3 : ((f s : Int) == 41) = false := eqf (k := 41) (fun h => hcl (by unfold Closer; omega))
  have t4 : ((f s : Int) == 62) = false := eqf (k := 62) (fun h => hcl (by unfold Closer; omega))
  have t5 : ((f s : Int) == 59) = false := eqf (k := 59) h59
  have HW : Hid (Word (f s)) := hw
  have t6 : decide ((0 : Int) ≤ k) = true := decide_eq_true hk
  clear hw h59 hcl
  go_wp2_with (go_at_call 33; refine (word_yes _ _ HW.out).mono ?_; rintro e1 w' ⟨rfl, hw'⟩; subst w')
  go_ret2
  have hbz : Below G w1 ((w1.setCell ⟨G, 3, none⟩ (.int .i64 N)).setCell ⟨G, 4, none⟩ (.int .i64 k)) := ((Below.refl G w1).setCell (p := ⟨G, 3, none⟩) (Nat.le_refl _) _).setCell (p := ⟨G, 4, none⟩) (Nat.le_refl _) _
  exact ⟨_, rfl, own_below hown1 hgo hbz, hgo, (hns1.s3 _).s4 _, hb1.trans hbz⟩

set_option maxRecDepth 100000 in
set_option maxHeartbeats 3200000 in
theorem takeC2 (G lo sb soff sn sc s e : Nat) (ov : Value) (N : Nat) (cl : Nat → Nat) (bd : Nat → Bool) (f : Nat → Nat) (m b d k mf : Int) (w : World) (hse : s < e) (hen : e ≤ sn) (hnc : sn ≤ sc) (hsn : sn ≤ 65536) (hN : N ≤ 4096)
    (hsb : sb < G) (h : Has w sb soff sn f) (hns : NS w G (.slice (some ⟨sb, soff, none⟩) sn sc) ov m b d k mf) (hown : w.ownsRow lo 47 2 ov N (brs cl bd N)) (hgo : ∀ g, ov.ownBlock = some g → g < G)
    (hcz : cof (f s) = 0) (hcl : ¬ Closer (f s)) (h59 : f s ≠ 59) (hk : ¬ (0 ≤ k ∧ Word (f s))) :
    Calls Try.prog 30 #[.pointer (some ⟨G, 0, none⟩), .int .i64 s, .int .i64 e] w (TNC G lo (.slice (some ⟨sb, soff, none⟩) sn sc) cl bd (CO (tokStr f s (e - s)) N s m b d) w) := by
  have c0 := hns.c0
  have c5 := hns.c5
  have c6 := hns.c6
  have z5 := hns.fz 5
  have z6 := hns.fz 6
  have g0 : (0 : Int) ≤ (s : Int) := by omega
  have g1 : (s : Int) ≤ (e : Int) := by omega
  have g2 : (e : Int) ≤ (sc : Int) := by omega
  have g3 : (e : Int) ≤ (sn : Int) := by omega
  go_enter Try.func30, Try.ntmps30
  go_wp2_with fail
  go_quiet (fail)
  have hc1 : w.cell? ⟨sb, soff + s, none⟩ = some (.int .u8 (f s)) := h.cell s (by omega)
  go_wp2_with fail
  refine (closerOf_zero _ _ hcz).mono ?_
  rintro e1 w' ⟨rfl, hw'⟩
  subst w'
  have hns1 : NS (((w.drewN nq).setCell ⟨G, 5, none⟩ (.int .i64 (-1))).setCell ⟨G, 6, none⟩ (.int .i64 (-1))) G (.slice (some ⟨sb, soff, none⟩) sn sc) ov m b d (-1) (-1) := ((hns.drewN nq).s5 (-1)).s6 (-1)
  have hb1 : Below G w (((w.drewN nq).setCell ⟨G, 5, none⟩ (.int .i64 (-1))).setCell ⟨G, 6, none⟩ (.int .i64 (-1))) := ((below_dr (Below.refl G w) nq).setCell (p := ⟨G, 5, none⟩) (Nat.le_refl _) _).setCell (p := ⟨G, 6, none⟩) (Nat.le_refl _) _
  generalize ((w.drewN nq).setCell ⟨G, 5, none⟩ (.int .i64 (-1))).setCell ⟨G, 6, none⟩ (.int .i64 (-1)) = w1 at *
  have hown1 := own_below hown hgo hb1
  have hh1 := h.below hb1 hsb
  have hc2 : w1.cell? ⟨sb, soff + s, none⟩ = some (.int .u8 (f s)) := hh1.cell s (by omega)
  have d1 := hns1.c1
  have d2 := hns1.c2
  have d3 := hns1.c3
  have d4 := hns1.c4
  have z1 := hns1.fz 1
  have z2 := hns1.fz 2
  have z3 := hns1.fz 3
  have z4 := hns1.fz 4
  have y5 := hns1.fz 5
  have y6 := hns1.fz 6
  have d5 := hns1.c5
  have d6 := hns1.c6
  have g4 : (0 : Int) < (e : Int) - (s : Int) := by omega
  clear c0 c5 c6 z5 z6 hc1 hown h hns
  obtain ⟨oa, cap, rfl, hNc, hrd⟩ := open_read hown1
  have t1 : ((f s : Int) == 125) = false := eqf (k := 125) (fun h => hcl (by unfold Closer; omega))
  have t2 : ((f s : Int) == 93) = false := eqf (k := 93) (fun h => hcl (by unfold Closer; omega))
  have t3 : ((f s : Int) == 41) = false := eqf (k := 41) (fun h => hcl (by unfold Closer; omega))
  have t4 : ((f s : Int) == 62) = false := eqf (k := 62) (fun h => hcl (by unfold Closer; omega))
  have t5 : ((f s : Int) == 59) = false := eqf (k := 59) h59
  clear h59 hcl
  go_upto_region 22 with fail
  go_cut [134] (fun t wx => wx = w1 ∧ t = .bool false)
  case first =>
    by_cases hk0 : 0 ≤ k
    · have HW : Hid (¬ Word (f s)) := fun h => hk ⟨hk0, h⟩
      have t6 : decide ((0 : Int) ≤ k) = true := decide_eq_true hk0
      clear hk
      go_wp2_with (go_at_call 33; refine (word_no _ _ HW.out).mono ?_; rintro e1 w' ⟨rfl, hw'⟩; subst w')
      go_meet
      exact ⟨rfl, rfl⟩
    · have t6 : decide ((0 : Int) ≤ k) = false := decide_eq_false hk0
      clear hk
      go_wp2_with fail
      go_meet
      exact ⟨rfl, rfl⟩
  case rest =>
    obtain ⟨hwc, rfl⟩ := hcut
    subst wc
    have hcv : (convert 24 9 (.slice (some ⟨sb, soff + s, none⟩) (e - s) (sc - s))).run Try.prog w1 = .ok (.string (tokStr f s (e - s))) w1 := by
      refine run_convert_bytes_arg (P := Try.prog) (w := w1) 24 5 rfl rfl sb (soff + s) (e - s) (sc - s) ((List.range (e - s)).map fun i => (f (s + i) : Int)) (by simp) ?_ 9 rfl
      intro i hi
      have := hh1.cell (s + i) (by omega)
      rw [show soff + s + i = soff + (s + i) by omega]
      simp [hi]
      exact this
    generalize tokStr f s (e - s) = TS at *
    by_cases p1 : TS.toList = [109, 101, 115, 115, 97, 103, 101]
    · have b1 : (TS.toList == [109, 101, 115, 115, 97, 103, 101]) = true := by simp [p1]
      have P1 := ba_eq p1
      have P1' : Hid (TS = ⟨#[109, 101, 115, 115, 97, 103, 101]⟩) := P1
      clear p1 P1
      go_wp2_with fail
      go_ret2
      exact ⟨_, .inl ⟨rfl, .inl P1'.out⟩, _, rfl, own_below hown1 hgo ((Below.refl G w1).setCell (p := ⟨G, 5, none⟩) (Nat.le_refl _) _), hgo, hns1.s5 _, hb1.trans ((Below.refl G w1).setCell (p := ⟨G, 5, none⟩) (Nat.le_refl _) _)⟩
    · have b1 : (TS.toList == [109, 101, 115, 115, 97, 103, 101]) = false := by simp [p1]
      by_cases p2 : TS.toList = [103, 114, 111, 117, 112]
      · have b2 : (TS.toList == [103, 114, 111, 117, 112]) = true := by simp [p2]
        have P1' : Hid (TS = ⟨#[103, 114, 111, 117, 112]⟩) := ba_eq p2
        clear p1 p2
        go_wp2_with fail
        go_ret2
        exact ⟨_, .inl ⟨rfl, .inr P1'.out⟩, _, rfl, own_below hown1 hgo ((Below.refl G w1).setCell (p := ⟨G, 5, none⟩) (Nat.le_refl _) _), hgo, hns1.s5 _, hb1.trans ((Below.refl G w1).setCell (p := ⟨G, 5, none⟩) (Nat.le_refl _) _)⟩
      · have b2 : (TS.toList == [103, 114, 111, 117, 112]) = false := by simp [p2]
        by_cases p3 : TS.toList = [109, 97, 112]
        · have b3 : (TS.toList == [109, 97, 112]) = true := by simp [p3]
          have P1' : Hid (TS = ⟨#[109, 97, 112]⟩) := ba_eq p3
          clear p1 p2 p3
          go_wp2_with fail
          go_ret2
          exact ⟨_, .inr (.inl ⟨rfl, P1'.out⟩), _, rfl, own_below hown1 hgo ((Below.refl G w1).setCell (p := ⟨G, 6, none⟩) (Nat.le_refl _) _), hgo, hns1.s6 _, hb1.trans ((Below.refl G w1).setCell (p := ⟨G, 6, none⟩) (Nat.le_refl _) _)⟩
        · have b3 : (TS.toList == [109, 97, 112]) = false := by simp [p3]
          clear p1 p2 p3
          go_wp2_with fail
          go_ret2
          exact ⟨_, .inr (.inr rfl), _, rfl, hown1, hgo, hns1, hb1⟩
end Go.Proofs.Qxb6601609a
