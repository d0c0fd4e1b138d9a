/-
  THE WALK OF FnEscapeLengthAcceptsEveryUnicodeEscape, OVER A SLICE THAT IS READ ('Rd').
-/
import Derived.Test.Qxb6600090aEscape
import Derived.Laws.BitsAllLaws
import Derived.Maps.AppendAt
namespace Go.Proofs.Qxb6600090a
open Go.RowKit

theorem news_two (w : World) (a b : Value) (t : TypeId) : ∀ j u, ([a, b] : List Value)[j]? = some u → (w.alloc (.cells #[a, b] t)).cell? ((⟨w.heap.size, 0, none⟩ : Addr).add j) = some u := by
  intro j u hj
  match j, hj with
  | 0, hj => simp at hj; subst hj; simp [Addr.add]
  | 1, hj => simp at hj; subst hj; simp [Addr.add]
  | j + 2, hj => simp at hj

theorem zzescape_six (g n c : Nat) (z : Nat → Int) (w : World) (hn : 6 ≤ n) (hnc : n ≤ c) (hc1 : w.cell? ⟨g, 1, none⟩ = some (.int .u8 117))
    (hz : ∀ k, k < 4 → w.cell? ⟨g, 2 + k, none⟩ = some (.int .u8 (z k))) (hx : ∀ k, k < 4 → HexOk (z k)) :
    Calls Try.prog 22 #[.slice (some ⟨g, 0, none⟩) n c] w fun e w' => e = .returned (.int .i64 6) ∧ w' = w := by
  go_enter Try.func22, Try.ntmps22
  go_wp2_with (go_at_call 26; refine (escape_six g n c z _ hn hnc hc1 hz hx).mono ?_; rintro e w' ⟨rfl, hw'⟩; subst w')
  go_ret
  exact ⟨rfl, rfl⟩
theorem and15 (x : Int) (h0 : 0 ≤ x) (h1 : x < 65536) : 0 ≤ bits BinOp.and IntKind.u16 x 15 ∧ bits BinOp.and IntKind.u16 x 15 < 16 := by
  obtain ⟨y, rfl⟩ := Int.eq_ofNat_of_zero_le h0
  have e : bits BinOp.and IntKind.u16 (y : Int) 15 = ((y &&& 15 : Nat) : Int) := u16_and_nat y 15 (by omega) (by decide)
  have l : y &&& 15 < 2 ^ 4 := Nat.and_lt_two_pow _ (by decide)
  rw [e]
  omega
theorem hexDigit_some (x : Int) (up : Bool) (w : World) (h0 : 0 ≤ x) (h1 : x < 65536) :
    Calls Try.prog 21 #[.int .u16 (bits BinOp.and IntKind.u16 x 15), .bool up] w fun e w' => ∃ y, e = .returned (.int .u8 y) ∧ HexOk y ∧ w' = w := by
  have k := and15 x h0 h1
  refine (hexDigit_any _ up w k.1 k.2).mono ?_
  rintro e w' ⟨rfl, rfl⟩
  exact ⟨_, rfl, hexd_ok _ _ k.1 k.2, rfl⟩

set_option maxHeartbeats 400000 in
theorem walkE (a0 : Nat) (a1 : Bool) (ao : Option Addr) (n c : Nat) (z : Nat → Int) (w : World) (ha : a0 < 65536) (hn : n ≤ 1048576) (h0 : ao = none → n = 0) (h : Rd w ao n z) :
    Calls Try.prog 8 #[.int .u16 a0, .bool a1, .slice ao n c] w fun e w' => e = .returned (.bool true) ∧ Below w.heap.size w w' := by
  obtain ⟨i0, hi, hz0, hz1, hz2⟩ := info_parts Try.info5
  have hd : decide ((1048576 : Int) < (n : Int)) = false := by simp; omega
  go_enter Try.func8, Try.ntmps8
  go_wp2_with (first
    | (go_at_call 20; refine (bytesE_yes _ _ _ _ _ _ hn).mono ?_; rintro e w' ⟨rfl, hw'⟩; subst w')
    | (go_at_call 14; refine (clone_any ao n c z w hn h0 h).mono ?_; rintro e w1 ⟨to, rfl, ht0, ht, hb1, htb⟩)
    | (at_make; refine wpList_make_own _ rfl _ _ 27 rfl w.heap.size 5 i0 (.int .u8 0) 1 Try.underlying27 hi hz0 hz1 _ _ _ (6 + n) rfl rfl (by omega) (by rw [hz2]; omega) (by unfold maxLen; omega) hb1.size ?_; intro w2 hown2 hgrow2)
    | (at_builtin; (refine wpList_append_fits _ rfl (.tmp 23) (.tmp 24) 27 rfl w.heap.size 5 i0 1 Try.underlying27 hi hz1 w1.heap.size 0 (6 + n) [] rfl (hown2.alloc _) ⟨w2.heap.size, 0, none⟩ 2 2 [.int .u8 92, .int .u8 117] rfl rfl (news_two _ _ _ _) (by simp [Value.oneCell']) (by omega) ?_); intro w3 hown3 hgrow3))
  have hb3 : Below w1.heap.size w1 w3 := (((Below.refl _ _).grown hgrow2 (Nat.le_refl _) (fun k e => by cases e)).alloc hgrow2.size _).grown hgrow3 (by have := hgrow2.size; simp; omega) (fun k e => by cases e; exact Nat.le_refl _)
  clear hown2 hgrow2 hgrow3
  go_loopw [7, 8] (fun t s wr => ∃ k : Nat, ∃ ds : List Int, k ≤ 4 ∧ ds.length = k ∧ (∀ d ∈ ds, HexOk d) ∧ t = .slice (some ⟨w1.heap.size, 0, none⟩) (2 + k) (6 + n) ∧ s = .int .i64 (12 - 4 * (k : Int)) ∧
      wr.ownsRow w.heap.size 5 1 (.slice (some ⟨w1.heap.size, 0, none⟩) (2 + k) (6 + n)) (2 + k) (([92, 117] ++ ds).map (Value.int .u8)) ∧ Below w1.heap.size w1 wr)
    (fun _ s _ => (16 + intOf s).toNat)
  case atStart => exact ⟨0, [], by omega, rfl, by simp, rfl, rfl, hown3, hb3⟩
  case round =>
    obtain ⟨k, ds, hk, hds, hok, rfl, rfl, hown, hb⟩ := hrel
    by_cases hlt : k < 4
    · rcases (show k = 0 ∨ k = 1 ∨ k = 2 ∨ k = 3 by omega) with rfl | rfl | rfl | rfl
      · go_wp2_with (first
          | (go_at_call 21; refine (hexDigit_some _ a1 _ (by omega) (by omega)).mono ?_; rintro e w' ⟨y, rfl, hy, hw'⟩; subst w')
          | (at_builtin; refine wpList_append_fits _ rfl (.tmp 30) (.tmp 38) 27 rfl w.heap.size 5 i0 1 Try.underlying27 hi hz1 w1.heap.size _ (6 + n) _ rfl (hown.alloc _) ⟨wr.heap.size, 0, none⟩ 1 1 [.int .u8 y] rfl rfl (cell_one_new _ _ _) (by simp [Value.oneCell']) (by omega) ?_; intro w4 hown4 hgrow4))
        have hb4 : Below w1.heap.size w1 w4 := (hb.alloc hb.size _).grown hgrow4 (by have := hb.size; simp; omega) (fun k e => by cases e; exact Nat.le_refl _)
        go_roundw
        case rel => exact ⟨1, ds ++ [y], by omega, by rw [List.length_append, hds]; rfl, by intro d hdm; rcases List.mem_append.1 hdm with h | h; exact hok d h; (simp at h; subst h; exact hy), rfl, by go_num, by simpa using hown4, hb4⟩
        case measure => simp [intOf]
      · go_wp2_with (first
          | (go_at_call 21; refine (hexDigit_some _ a1 _ (by omega) (by omega)).mono ?_; rintro e w' ⟨y, rfl, hy, hw'⟩; subst w')
          | (at_builtin; refine wpList_append_fits _ rfl (.tmp 30) (.tmp 38) 27 rfl w.heap.size 5 i0 1 Try.underlying27 hi hz1 w1.heap.size _ (6 + n) _ rfl (hown.alloc _) ⟨wr.heap.size, 0, none⟩ 1 1 [.int .u8 y] rfl rfl (cell_one_new _ _ _) (by simp [Value.oneCell']) (by omega) ?_; intro w4 hown4 hgrow4))
        have hb4 : Below w1.heap.size w1 w4 := (hb.alloc hb.size _).grown hgrow4 (by have := hb.size; simp; omega) (fun k e => by cases e; exact Nat.le_refl _)
        go_roundw
        case rel => exact ⟨2, ds ++ [y], by omega, by rw [List.length_append, hds]; rfl, by intro d hdm; rcases List.mem_append.1 hdm with h | h; exact hok d h; (simp at h; subst h; exact hy), rfl, by go_num, by simpa using hown4, hb4⟩
        case measure => simp [intOf]
      · go_wp2_with (first
          | (go_at_call 21; refine (hexDigit_some _ a1 _ (by omega) (by omega)).mono ?_; rintro e w' ⟨y, rfl, hy, hw'⟩; subst w')
          | (at_builtin; refine wpList_append_fits _ rfl (.tmp 30) (.tmp 38) 27 rfl w.heap.size 5 i0 1 Try.underlying27 hi hz1 w1.heap.size _ (6 + n) _ rfl (hown.alloc _) ⟨wr.heap.size, 0, none⟩ 1 1 [.int .u8 y] rfl rfl (cell_one_new _ _ _) (by simp [Value.oneCell']) (by omega) ?_; intro w4 hown4 hgrow4))
        have hb4 : Below w1.heap.size w1 w4 := (hb.alloc hb.size _).grown hgrow4 (by have := hb.size; simp; omega) (fun k e => by cases e; exact Nat.le_refl _)
        go_roundw
        case rel => exact ⟨3, ds ++ [y], by omega, by rw [List.length_append, hds]; rfl, by intro d hdm; rcases List.mem_append.1 hdm with h | h; exact hok d h; (simp at h; subst h; exact hy), rfl, by go_num, by simpa using hown4, hb4⟩
        case measure => simp [intOf]
      · go_wp2_with (first
          | (go_at_call 21; refine (hexDigit_some _ a1 _ (by omega) (by omega)).mono ?_; rintro e w' ⟨y, rfl, hy, hw'⟩; subst w')
          | (at_builtin; refine wpList_append_fits _ rfl (.tmp 30) (.tmp 38) 27 rfl w.heap.size 5 i0 1 Try.underlying27 hi hz1 w1.heap.size _ (6 + n) _ rfl (hown.alloc _) ⟨wr.heap.size, 0, none⟩ 1 1 [.int .u8 y] rfl rfl (cell_one_new _ _ _) (by simp [Value.oneCell']) (by omega) ?_; intro w4 hown4 hgrow4))
        have hb4 : Below w1.heap.size w1 w4 := (hb.alloc hb.size _).grown hgrow4 (by have := hb.size; simp; omega) (fun k e => by cases e; exact Nat.le_refl _)
        go_roundw
        case rel => exact ⟨4, ds ++ [y], by omega, by rw [List.length_append, hds]; rfl, by intro d hdm; rcases List.mem_append.1 hdm with h | h; exact hok d h; (simp at h; subst h; exact hy), rfl, by go_num, by simpa using hown4, hb4⟩
        case measure => simp [intOf]
    · have e4 : k = 4 := by omega
      subst e4
      clear hlt
      have htc : ∀ ad, to = some ad → ∀ j u, (((List.range n).map fun i => Value.int .u8 (z i)) : List Value)[j]? = some u → wr.cell? (ad.add j) = some u := by
        intro ad had j u hu
        have hj : j < n := by have := (List.getElem?_eq_some_iff.1 hu).1; simpa using this
        obtain ⟨b, off, e1, e2, e3⟩ := ht.at_ (by omega)
        rw [had] at e1
        obtain rfl := Option.some.inj e1
        rw [Addr.add_lit, hb.cell (p := ⟨b, off + j, none⟩) e2, e3 j hj]
        simpa [hj] using hu
      go_wp2_with (first
        | (at_builtin; refine wpList_append_fits_any _ rfl (.tmp 40) (.tmp 41) 27 rfl w.heap.size 5 i0 1 Try.underlying27 hi hz1 w1.heap.size _ (6 + n) _ rfl hown to n n ((List.range n).map fun i => Value.int .u8 (z i)) rfl (by simp) (fun e => ⟨ht0 e, ht0 e⟩) htc (by intro u hu; obtain ⟨_, _, rfl⟩ := List.mem_map.1 hu; rfl) (by omega) ?_; intro w5 hown5 hgrow5))
      have e6 : (2 + 4 + n) = 6 + n := by omega
      rw [e6] at hown5
      have hcell : ∀ j, j < 6 → w5.cell? ⟨w1.heap.size, j, none⟩ = ((([92, 117] ++ ds).map (Value.int .u8)) : List Value)[j]? := by
        intro j hj
        rw [hown5.cellAt j (by omega), List.getElem?_append_left (by simp; omega)]
      have hb5 : Below w1.heap.size w1 w5 := hb.grown hgrow5 hb.size (fun k e => by cases e; exact Nat.le_refl _)
      refine (zzescape_six w1.heap.size (6 + n) (6 + n) (fun k => ds.getD k 0) w5 (by omega) (by omega) ?_ ?_ ?_).mono ?_
      · rw [hcell 1 (by omega)]; rfl
      · intro k hk4
        rw [hcell (2 + k) (by omega)]
        have hkd : k < ds.length := by omega
        have e2 : 2 + k = k + 1 + 1 := by omega
        rw [e2]
        simp [hkd]
      · intro k hk4
        have hkd : k < ds.length := by omega
        have e : ds.getD k 0 = ds[k] := by simp [List.getD, hkd]
        show HexOk (ds.getD k 0)
        rw [e]
        exact hok _ (List.getElem_mem hkd)
      · rintro e w' ⟨rfl, hw'⟩
        subst w'
        go_wp2
        go_ret
        exact ⟨rfl, hb1.trans (hb5.mono hb1.size)⟩
end Go.Proofs.Qxb6600090a
