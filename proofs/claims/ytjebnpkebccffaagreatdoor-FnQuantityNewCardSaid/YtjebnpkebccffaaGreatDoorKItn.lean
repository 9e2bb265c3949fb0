import Derived.Test.YtjebnpkebccffaaGreatDoorKDecs
import Derived.Test.YtjebnpkebccffaaGreatDoorKDvn
import Derived.Test.YtjebnpkebccffaaGreatDoorKDww
import Derived.Test.YtjebnpkebccffaaGreatDoorKDcw
import Derived.Test.YtjebnpkebccffaaGreatDoorKResc
import Derived.Test.YtjebnpkebccffaaGreatDoorKPqa
set_option linter.unusedSimpArgs false
set_option linter.unusedVariables false
set_option linter.unusedSectionVars false
namespace Go.Proofs.YtjebnpkebccffaaGreatDoor
open Go.RowKit
set_option maxRecDepth 100000 in
set_option maxHeartbeats 2000000 in
theorem itoa_neg (x : Value) (bx : Option Nat) (n : Nat) (w : World) (hx : NatAt w x n bx) (h0 : n ≠ 0) (hn : (dig n).length ≤ 8) (hleaf : Leaf w)
    (hdiv : ∀ (W : World) (v : Value) (b : Option Nat) (m : Nat), m ≤ n → NatAt W v m b → Calls Tryz.prog 223 #[v, v, .int .u64 10000000000000000000] W (DivW W b (quoN m 10000000000000000000) (remN m 10000000000000000000))) :
    Calls Tryz.prog 237 #[x, .bool true, .int .i64 10] w (ItoaRes w (45 :: decs n)) := by
  have hsm : Sm n := by unfold Sm; omega
  obtain ⟨q, k, t1, t2, t3, t4⟩ := tab_facts (nbits n) (by have := nbits_le n; omega)
  have hlt1 : n < 10 ^ (k + 1) := Nat.lt_of_lt_of_le (nbits_lt n) t4
  have hlt : n < 10 ^ (k + 2) := Nat.lt_of_lt_of_le hlt1 (Nat.pow_le_pow_right (by omega) (by omega))
  have HLT1 := Lib.hid hlt1
  clear hlt1
  have HB := Lib.hid (bitLen_any x bx n w hx h0 hsm)
  have HX := Lib.hid hx
  have HSM := Lib.hid hsm
  have HD := Lib.hid hdiv
  have HLEAF := Lib.hid hleaf
  have HLT := Lib.hid hlt
  have HN0 := Lib.hid h0
  have hpos := dig_len_pos h0
  obtain ⟨ax, cx, rfl⟩ := nat_slice hx
  generalize hL : (dig n).length = ℓ at *
  have f1 := fun w => cv_float ((nbits n : Nat) : Int) w
  generalize nbits n = nb at *
  generalize FloatKind.f64.nearest ((nb : Nat) : Int) = fb at *
  have f2 := fun w => quo_float fb _ q t1 w
  have f3 := fun w => cv_int q k t2 t3 w
  have f4 := fun w => fcv10 w
  have b1 : bits .and .u64 10 18446744073709551606 = 2 := by decide +kernel
  have mk : ∀ w : World, (Instr.makeSlice 57 (.int .i64 ((k : Int) + 1 + 1)) (.int .i64 ((k : Int) + 1 + 1))).run Tryz.prog w = .ok (.slice (some ⟨w.heap.size, 0, none⟩) (k + 2) (k + 2)) (w.alloc (.cells (zb (k + 2)) 5)) := fun w => by
    have h := byte_make (k + 2) (by omega) w
    rw [show ((k + 2 : Nat) : Int) = (k : Int) + 1 + 1 by omega] at h
    exact h
  clear hx hsm hdiv hleaf hlt h0 t1 t2 t4 hL
  go_enter_defers Tryz.func237, Tryz.ntmps237
  go_wp2_with fail
  refine HB.out.mono ?_
  rintro e w1 ⟨rfl, rfl⟩
  go_wp2_with fail
  refine (Log2_c _).mono ?_
  rintro e w1 ⟨rfl, rfl⟩
  go_wp2_with fail
  refine (getStack_any _).mono ?_
  rintro e w1 ⟨rfl, hw1⟩
  have hst : w1.cell? ⟨w.heap.size + 1, 0, none⟩ = some (.pointer none) := by
    have : w1.heap[w.heap.size + 1]? = some (.cells #[.pointer none] 309) := by rw [hw1]; simpa using heap_alloc_new (w.alloc (.cells (zb (k + 2)) 5)) (.cells #[.pointer none] 309)
    rw [cell_of this]; rfl
  have hk1 : Kept (fun _ => False) w w1 := by rw [hw1]; exact ((Kept.refl _ _).alloc _).alloc _
  have hd1 : Digs w1 w.heap.size n (k + 2) (k + 2) := by rw [hw1]; exact (digs_new w n (k + 2)).move (Below.heap_alloc _ _ _ (by simp))
  have hsz : w1.heap.size = w.heap.size + 2 := by rw [hw1]; simp
  have hl1 : Leaf w1 := HLEAF.out.kept hk1 (fun f => f)
  have HST := Lib.hid hst
  have HK1 := Lib.hid hk1
  have HD1 := Lib.hid hd1
  have HSZ := Lib.hid hsz
  have HL1 := Lib.hid hl1
  have HX1 := Lib.hid (HX.out.kept hk1 (fun _ _ f => f))
  have esz : (w.alloc (.cells (zb (k + 2)) 5)).heap.size = w.heap.size + 1 := by simp
  clear hst hk1 hd1 hsz hl1 hw1 esz
  go_wp2_with fail
  refine (maxPow_ten _).mono ?_
  rintro e w2 ⟨rfl, rfl⟩
  go_wp2_with fail
  refine (divisors_small _ ℓ _ _ _ _ hn HL1.out).mono ?_
  rintro e w2 ⟨rfl, rfl⟩
  go_wp2_with fail
  refine (set_nil _ bx n _ HX1.out HSM.out).mono ?_
  rintro e w2 ⟨v2, b2, rfl, h1, h2, h3⟩
  have hb2 : b2 ≠ some w.heap.size := by
    rcases h3 with h3 | ⟨j, hj, hjs⟩
    · rw [h3]; simp
    · rw [hj]; intro e; injection e with e; have := HSZ.out; omega
  have hd2 : Digs w2 w.heap.size n (k + 2) (k + 2) := HD1.out.move (h2.block _ (by have := HSZ.out; omega) (by simp))
  have hk2 : Kept (fun _ => False) w w2 := HK1.out.trans h2 (fun _ _ f => f) (fun _ _ f => by cases f)
  have hst2 : w2.cell? ⟨w.heap.size + 1, 0, none⟩ = some (.pointer none) := by
    unfold World.cell?
    rw [h2.block _ (by have := HSZ.out; show w.heap.size + 1 < _; omega) (by simp)]
    exact HST.out
  have hb2' : ∀ j, b2 = some j → w1.heap.size ≤ j := by
    intro j hj
    rcases h3 with h3 | ⟨i, hi, his⟩
    · rw [h3] at hj; cases hj
    · rw [hi] at hj; injection hj with hj; omega
  have HN2 := Lib.hid h1
  have HB2 := Lib.hid hb2
  have HD2 := Lib.hid hd2
  have HK2 := Lib.hid hk2
  have HST2 := Lib.hid hst2
  have HB2' := Lib.hid hb2'
  clear h1 h2 h3 hb2 hd2 hk2 hst2 hb2' HK1 HD1 HL1 HX1 HST HB HX HSM HLEAF
  go_wp2_with fail
  refine (convertWords_ten v2 _ b2 n (k + 2) w.heap.size (k + 2) w2 HN2.out HD2.out HB2.out (by omega) HLT.out HD.out).mono ?_
  rintro e w3 ⟨rfl, hdg, hkp⟩
  have hk3 : Kept (fun _ => False) w w3 := HK2.out.trans hkp (fun _ _ f => f) (fun i hi f => by
    rcases f with f | f
    · omega
    · have := HB2'.out i f; have := HSZ.out; omega)
  have hst3 : w3.cell? ⟨w.heap.size + 1, 0, none⟩ = some (.pointer none) := by
    unfold World.cell?
    rw [hkp.block (w.heap.size + 1) (heap_lt_cell HST2.out) (by
      intro f
      rcases f with f | f
      · omega
      · have := HB2'.out _ f; have := HSZ.out; omega)]
    exact HST2.out
  have HDG := Lib.hid hdg
  have HK3 := Lib.hid hk3
  have HST3 := Lib.hid hst3
  clear hdg hkp hk3 hst3 HN2 HB2 HD2 HK2 HST2 HB2' HD HSZ
  generalize hS : w.heap.size = S at *
  have HS := Lib.hid hS
  clear hS mk f1 f2 f3 f4 b1
  go_wp2_with fail
  go_loop [7] (fun i => ∃ i' : Nat, i' < k + 2 ∧ i = .int .i64 (i' : Int) ∧ n < 10 ^ (k + 2 - i')) (fun i => k + 2 - (intOf i).toNat)
  case atStart => exact ⟨0, by omega, rfl, HLT.out⟩
  case round =>
    obtain ⟨i, hi, rfl, hnn⟩ := hrel
    have c1 : w3.cell? ⟨S, i, none⟩ = some (.int .u8 ((48 + dgt n (k + 2) i : Nat) : Int)) := by
      obtain ⟨cs, h1, h2, h3⟩ := HDG.out
      rw [cell_of h1]
      exact h3 i (by omega) hi
    have HNN := Lib.hid hnn
    clear hnn
    by_cases hz : dgt n (k + 2) i = 0
    · rw [hz] at c1
      have HZ := Lib.hid hz
      clear hz
      go_wp2_with fail
      go_round
      case rel =>
        have h1 : n < 10 ^ (k + 2 - (i + 1)) := by
          have hz := HZ.out
          unfold dgt at hz
          rw [show k + 2 - 1 - i = k + 2 - (i + 1) by omega] at hz
          have h2 : n / 10 ^ (k + 2 - (i + 1)) < 10 := by
            rw [Nat.div_lt_iff_lt_mul (Nat.pow_pos (by omega)), ← Nat.pow_succ', show (k + 2 - (i + 1)).succ = k + 2 - i by omega]
            exact HNN.out
          have h3 : n / 10 ^ (k + 2 - (i + 1)) = 0 := by
            generalize n / 10 ^ (k + 2 - (i + 1)) = t at *
            omega
          exact (Nat.div_eq_zero_iff.1 h3).resolve_left (Nat.pos_iff_ne_zero.1 (Nat.pow_pos (by omega)))
        refine ⟨i + 1, ?_, by go_num, h1⟩
        rcases Nat.lt_or_ge (i + 1) (k + 2) with h | h
        · exact h
        · rw [show k + 2 - (i + 1) = 0 by omega, Nat.pow_zero] at h1
          have := HN0.out
          omega
      case measure => simp [intOf]; omega
    · have g1 : (((48 + dgt n (k + 2) i : Nat) : Int) == 48) = false := beqF (by omega)
      obtain ⟨ii, hii⟩ : ∃ ii, i = ii + 1 := by
        rcases Nat.eq_zero_or_pos i with h | h
        · exfalso
          subst h
          apply hz
          unfold dgt
          rw [show k + 2 - 1 - 0 = k + 1 by omega, Nat.div_eq_of_lt HLT1.out]
        · exact ⟨i - 1, by omega⟩
      have HFIN := Lib.hid (first_place HDG.out hi HNN.out hz)
      obtain ⟨u, cu⟩ : ∃ u, w3.cell? ⟨S, ii, none⟩ = some u := by
        obtain ⟨cs, h1, h2, h3⟩ := HDG.out
        refine ⟨cs[ii]'(by rw [h2]; omega), ?_⟩
        rw [cell_of h1]
        exact Array.getElem?_eq_getElem (by rw [h2]; omega)
      have cf : w3.frozen? ⟨S, ii, none⟩ = false := by
        obtain ⟨cs, h1, h2, h3⟩ := HDG.out
        exact frozen_of h1 ii
      have hst4 : (w3.setCell ⟨S, ii, none⟩ (.int .u8 45)).cell? ⟨S + 1, 0, none⟩ = some (.pointer none) := by
        unfold World.cell?
        rw [heap_set_ne (show S + 1 ≠ S by omega)]
        exact HST3.out
      have HST4 := Lib.hid hst4
      have HII := Lib.hid hii
      have g2 : (i : Int) - 1 = (ii : Int) := by omega
      have hki : ii < k + 2 := by omega
      have hi1 : 1 ≤ i := by omega
      clear hz hst4 hii
      generalize dgt n (k + 2) i = dd at *
      go_wp2_with fail
      refine leaves_cons (f := 170) (args := #[.pointer (some ⟨S + 1, 0, none⟩)]) (by simp) (by simp [go_sem]) ?_
      refine (stack_free_d (S + 1) .returning _ HST4.out).mono ?_
      rintro e u' w4 ⟨rfl, rfl, rfl⟩
      refine ⟨_, results_tmp rfl _ _ _, ?_⟩
      obtain ⟨e1, cs, e2, e3, e4⟩ := HFIN.out
      have hii := HII.out
      have el : (45 :: decs n).length = k + 2 - ii := by rw [List.length_cons, e1]; omega
      refine ⟨S, ii, k + 2 - ii, cs.setIfInBounds ii (.int .u8 45), by rw [el]; rfl, heap_set_same e2 ii _, by have := HS.out; omega, ?_, by rw [el, Array.size_setIfInBounds]; omega, by rw [Array.size_setIfInBounds]; omega, HK3.out.setCell _ _ (fun h => by have := HS.out; simp at h; omega)⟩
      intro j hj
      cases j with
      | zero =>
        rw [Array.getElem?_setIfInBounds, if_pos (by omega), if_pos (by omega)]
        rfl
      | succ j =>
        rw [Array.getElem?_setIfInBounds, if_neg (by omega)]
        have := e4 j (by rw [List.length_cons] at hj; omega)
        rw [hii] at this
        rw [show ii + (j + 1) = ii + 1 + j by omega, this]
        rfl
set_option maxRecDepth 100000 in
set_option maxHeartbeats 1000000 in
theorem Int_Text_neg (x : Nat) (n : Nat) (bx : Option Nat) (rx : List Value) (Tx : TypeId) (w : World) (hx : IntAt w x (-(n : Int)) bx rx Tx) (h0 : n ≠ 0) (hn : (dig n).length ≤ 8) (hleaf : Leaf w)
    (hdiv : ∀ (W : World) (v : Value) (b : Option Nat) (m : Nat), m ≤ n → NatAt W v m b → Calls Tryz.prog 223 #[v, v, .int .u64 10000000000000000000] W (DivW W b (quoN m 10000000000000000000) (remN m 10000000000000000000))) :
    Calls Tryz.prog 213 #[.pointer (some ⟨x, 0, none⟩), .int .i64 10] w fun e w' => e = .returned (.string (strN (45 :: decs n))) ∧ Kept (fun _ => False) w w' := by
  obtain ⟨vx, hx1, hx2, hx3⟩ := hx
  obtain ⟨cx0, cx1, _, _⟩ := int_cells hx1
  rw [decT (show -(n : Int) < 0 by omega)] at cx0
  rw [Int.natAbs_neg, Int.natAbs_natCast] at hx2
  have HC := Lib.hid (itoa_neg vx bx n w.drew (by exact hx2) h0 hn (by exact hleaf) hdiv)
  generalize (45 :: decs n) = T at *
  clear hx1 hx2 hleaf hdiv
  go_enter Tryz.func213, Tryz.ntmps213
  go_wp2_with fail
  go_region_with (go_at_call 237; refine HC.out.mono ?_; rintro e w1 ⟨s, off, cap, cs, rfl, h1, h2, h3, h4, h5, h6⟩; have hcv := conv_text (cap := cap) h1 h3; have H := Lib.hid h6.undrew; clear h1 h2 h3 h4 h5 h6)
  all_goals
    go_wp2_with fail
    go_ret
    exact ⟨rfl, H.out⟩
set_option maxHeartbeats 400000 in
theorem Int_String_neg (x : Nat) (n : Nat) (bx : Option Nat) (rx : List Value) (Tx : TypeId) (w : World) (hx : IntAt w x (-(n : Int)) bx rx Tx) (h0 : n ≠ 0) (hn : (dig n).length ≤ 8) (hleaf : Leaf w)
    (hdiv : ∀ (W : World) (v : Value) (b : Option Nat) (m : Nat), m ≤ n → NatAt W v m b → Calls Tryz.prog 223 #[v, v, .int .u64 10000000000000000000] W (DivW W b (quoN m 10000000000000000000) (remN m 10000000000000000000))) :
    Calls Tryz.prog 190 #[.pointer (some ⟨x, 0, none⟩)] w fun e w' => e = .returned (.string (strN (45 :: decs n))) ∧ Kept (fun _ => False) w w' := by
  have H := Lib.hid (Int_Text_neg x n bx rx Tx w hx h0 hn hleaf hdiv)
  clear hx h0 hn hleaf hdiv
  go_enter Tryz.func190, Tryz.ntmps190
  go_wp2_with fail
  refine H.out.mono ?_
  rintro e w1 ⟨rfl, h⟩
  have H := Lib.hid h
  clear h
  go_wp2_with fail
  go_ret
  exact ⟨rfl, H.out⟩
end Go.Proofs.YtjebnpkebccffaaGreatDoor
namespace Go.Proofs.YtjebnpkebccffaaGreatDoor
open Go.RowKit
set_option maxRecDepth 100000 in
set_option maxHeartbeats 4000000 in
theorem bigCanon_pos (d M k r : Nat) (s E : Int) (b : Option Nat) (t : ByteArray) (w : World) (hd : DecAt w d (((M * 10 ^ k : Nat) : Int)) (-s) b) (hN : M * 10 ^ k < B64) (hM : M % 10 ≠ 0) (hMb : 10 ≤ M) (hE : s + (k : Int) = E) (hr : E = -2 ∧ r = 1 ∨ E = -1 ∧ r = 2) (hs : -100 ≤ s ∧ s ≤ 100)
    (hleaf : Leaf w) (hl : (decs (M * 10 ^ r)).length = t.size) (ht : ∀ j (h : j < t.size), (decs (M * 10 ^ r)).getD j 0 = t[j].toNat) :
    Calls Tryz.prog 150 #[.agg #[.pointer (some ⟨d, 0, none⟩)], .slice none 0 0] w (CanB w t (-3)) := by
  have hk : k < 64 := by
    rcases Nat.lt_or_ge k 64 with h' | h'
    · exact h'
    · have h1 : 2 ^ 64 ≤ 10 ^ k := Nat.le_trans (Nat.pow_le_pow_right (by omega) h') (Nat.pow_le_pow_left (by omega) k)
      have h2 : 1 * 10 ^ k ≤ M * 10 ^ k := Nat.mul_le_mul_right _ (by omega)
      unfold B64 at hN
      omega
  have hMN : M ≤ M * 10 ^ k := Nat.le_mul_of_pos_right M (Nat.pow_pos (by omega))
  have HMB : Hid (M < B64 ∧ M ≠ 0 ∧ r < 3) := ⟨by omega, by omega, by omega⟩
  have hun : ∀ t', 10 ^ t' ∣ M * 10 ^ k → M * 10 ^ k / 10 ^ t' % 10 ≠ 0 → t' = k := by
    intro t' h1 h2
    rcases Nat.lt_trichotomy t' k with h | h | h
    · exfalso
      apply h2
      have e : M * 10 ^ k = M * 10 ^ (k - t') * 10 ^ t' := by rw [Nat.mul_assoc, ← Nat.pow_add, Nat.sub_add_cancel (by omega)]
      rw [e, Nat.mul_div_cancel _ (Nat.pow_pos (by omega)), show k - t' = (k - t' - 1) + 1 by omega, Nat.pow_succ, ← Nat.mul_assoc, Nat.mul_mod_left]
    · exact h
    · exfalso
      have e : 10 ^ (k + 1) ∣ M * 10 ^ k := Nat.dvd_trans (Nat.pow_dvd_pow 10 (by omega)) h1
      rw [Nat.pow_succ, Nat.mul_comm] at e
      have := Nat.dvd_of_mul_dvd_mul_right (Nat.pow_pos (by omega)) e
      exact hM (Nat.mod_eq_zero_of_dvd this)
  have HUN := Lib.hid hun
  have HQK : Hid (M * 10 ^ k / 10 ^ k = M) := Nat.mul_div_cancel _ (Nat.pow_pos (by omega))
  have HBIG : Hid (∀ t', 10 ^ t' ∣ M * 10 ^ k → M * 10 ^ k / 10 ^ t' / 10 ≠ 0) := by
    intro t' h1
    have hle : t' ≤ k := by
      rcases Nat.lt_or_ge k t' with h | h
      · exfalso
        have e : 10 ^ (k + 1) ∣ M * 10 ^ k := Nat.dvd_trans (Nat.pow_dvd_pow 10 (by omega)) h1
        rw [Nat.pow_succ, Nat.mul_comm] at e
        have := Nat.dvd_of_mul_dvd_mul_right (Nat.pow_pos (by omega)) e
        exact hM (Nat.mod_eq_zero_of_dvd this)
      · exact h
    have e : M * 10 ^ k = M * 10 ^ (k - t') * 10 ^ t' := by rw [Nat.mul_assoc, ← Nat.pow_add, Nat.sub_add_cancel hle]
    rw [e, Nat.mul_div_cancel _ (Nat.pow_pos (by omega))]
    have h2 : M * 1 ≤ M * 10 ^ (k - t') := Nat.mul_le_mul_left M (Nat.pow_pos (by omega))
    intro h3
    have := Nat.div_eq_zero_iff.1 h3
    omega
  have HD := Lib.hid hd
  have HLF := Lib.hid hleaf
  have HL := Lib.hid hl
  have HT := Lib.hid ht
  have HNN := Lib.hid hN
  have HE := Lib.hid hE
  have hb := heap_alloc_new w (.cells #[.pointer (some ⟨d, 0, none⟩)] 63)
  have k0 : Kept (fun _ => False) w (w.alloc (.cells #[.pointer (some ⟨d, 0, none⟩)] 63)) := (Kept.refl _ _).alloc _
  have K0 := Lib.hid k0
  have HN0 : Hid (M * 10 ^ k ≠ 0) := by show M * 10 ^ k ≠ 0; omega
  have HSM : Hid (Sm (M * 10 ^ k)) := Sm.one hN
  generalize hW : w.alloc (.cells #[.pointer (some ⟨d, 0, none⟩)] 63) = W at *
  have c0 : W.cell? ⟨w.heap.size, 0, none⟩ = some (.pointer (some ⟨d, 0, none⟩)) := by rw [cell_of hb]; rfl
  have D0 : Hid (DecAt W d (((M * 10 ^ k : Nat) : Int)) (-s) b) := IntAt.old HD.out K0.out
  have e1 : wrap32 s = s := by unfold wrap32; omega
  have e2 : wrap32 (s + (k : Int)) = E := by rw [hE]; unfold wrap32; omega
  have e3 : IntKind.i32.wrap (s + (k : Int)) = E := by rw [hE, IntKind.wrap_i32]; omega
  clear hd hleaf hl ht hN hE hb k0 hun hMN hM
  go_enter Tryz.func150, Tryz.ntmps150
  go_wp2_with fail
  refine (Dec_UnscaledBig d _ _ b W D0.out).mono ?_
  rintro e w1 ⟨rfl, rfl⟩
  go_wp2_with fail
  refine (Dec_Scale d _ _ b W D0.out).mono ?_
  rintro e w1 ⟨rfl, rfl⟩
  go_wp2_with fail
  refine (NewInt_zero _).mono ?_
  rintro e w1 ⟨p1, b1, rfl, hp1, a1, k1, q1⟩
  have A1 := Lib.hid a1
  have K1 := Lib.hid (kept_new' K0.out k1)
  have D1 : Hid (DecAt w1 d (((M * 10 ^ k : Nat) : Int)) (-s) b) := IntAt.old D0.out k1
  have hdl := IntAt.lt D0.out
  have hne : Hid (p1 ≠ d ∧ b1 ≠ some d ∧ w.heap.size ≤ p1 ∧ ∀ j, b1 = some j → w.heap.size ≤ j) := ⟨by omega, fun e => by have := q1 _ e; omega, by have := K0.out.size; omega, fun j hj => by have := K0.out.size; have := q1 j hj; omega⟩
  clear a1 k1 q1 hp1
  go_wp2_with fail
  refine (Int_Set p1 d 0 (((M * 10 ^ k : Nat) : Int)) b1 b [] [.int .i32 (-s)] 109 112 w1 A1.out D1.out hne.out.1 hne.out.2.1 (by rw [Int.natAbs_natCast]; exact HSM.out)).mono ?_
  rintro e w2 ⟨rfl, b2, a2, k2, o2⟩
  have HB2 : Hid (∀ j, b2 = some j → w.heap.size ≤ j) := fun j hj => by
    rcases o2 with h | ⟨i, h, hi⟩
    · rw [h] at hj; exact hne.out.2.2.2 j hj
    · rw [hj] at h; injection h with h; have := K1.out.size; omega
  have A2 := Lib.hid a2
  have K2 : Hid (Kept (fun _ => False) w w2) := K1.out.trans k2 (fun _ _ f => f) (fun i hi h => by
    rcases h with h | h
    · have := hne.out.2.2.1; omega
    · have := hne.out.2.2.2 i h; omega)
  clear a2 k2 o2
  go_wp2_with fail
  refine (NewInt_nat 10 (by omega) w2).mono ?_
  rintro e w3 ⟨y, by_, rfl, hy, ay, ky, qy⟩
  have AY := Lib.hid ay
  have K3 := Lib.hid (kept_new' K2.out ky)
  have A3 := Lib.hid (IntAt.old A2.out ky)
  have SP : Hid (Sep p1 b2 y by_) := (Sep.fresh hy qy (IntAt.lt A2.out) (IntAt.lts A2.out)).symm
  clear ay ky hy qy
  go_wp2_with fail
  refine (removeBigIntFactors_small p1 y (M * 10 ^ k) 10 b2 by_ _ [] 109 109 w3 A3.out AY.out SP.out HNN.out HN0.out (by unfold B64; omega) (by omega)).mono ?_
  rintro e w4 ⟨tt, p, bp, rp, Tp, rfl, hdv, hmod, ap, kp, hmine⟩
  obtain rfl := HUN.out tt hdv hmod
  rw [HQK.out] at ap
  have K4 : Hid (Kept (fun _ => False) w w4) := K3.out.trans kp (fun _ _ f => f) (fun i hi h => by
    rcases h with h | h
    · have := hne.out.2.2.1; omega
    · have := HB2.out i h; omega)
  have AP := Lib.hid ap
  have HMI : Hid (∀ j, (j = p ∨ bp = some j) → w.heap.size ≤ j) := fun j hj => by
    rcases Nat.lt_or_ge j w.heap.size with h | h
    · have hs3 := K3.out.size
      rcases hmine j hj (by omega) with h' | h'
      · have := hne.out.2.2.1; omega
      · have := HB2.out j h'; omega
    · exact h
  clear ap kp hmine hdv hmod A3 AY SP
  go_wp2_with fail
  go_loopw [5] (fun v5 wr => ∃ (j : Nat) (V : Int) (b' : Option Nat) (rr : List Value) (T : TypeId), j ≤ r ∧ v5 = .int .i32 V ∧ V = E - (j : Int) ∧ IntAt wr p (((M * 10 ^ j : Nat) : Int)) b' rr T ∧ Kept (fun _ => False) w wr ∧ (∀ i, (i = p ∨ b' = some i) → w.heap.size ≤ i)) (fun v5 _ => (intOf v5 + 4).toNat)
  case atStart => exact ⟨0, E, bp, rp, Tp, Nat.zero_le _, rfl, by omega, by rw [Nat.pow_zero, Nat.mul_one]; exact AP.out, K4.out, HMI.out⟩
  case round =>
    obtain ⟨j, V, b', rr, T, hj, rfl, hV, a5, k5, m5⟩ := hrel
    have A5 := Lib.hid a5
    have K5 := Lib.hid k5
    have M5 := Lib.hid m5
    have HV := Lib.hid hV
    clear a5 k5 m5
    by_cases hjr : j < r
    · have hVV : V = -1 ∨ V = -2 := by omega
      have g1 : (V.tmod 3 != 0) = true := by rcases hVV with h | h <;> rw [h] <;> decide
      have g2 : wrap32 (V - 1) = V - 1 := by unfold wrap32; omega
      have hVb : -2 ≤ V ∧ V ≤ -1 := by omega
      clear hV hVV
      go_wp2_with fail
      refine (NewInt_nat 10 (by omega) wr).mono ?_
      rintro e w6 ⟨y6, by6, rfl, hy6, ay6, ky6, qy6⟩
      have AY6 := Lib.hid ay6
      have A6 := Lib.hid (A5.out.old ky6)
      have hpl := A5.out.lt
      have hpls := A5.out.lts
      have hne6 : Hid (p ≠ y6 ∧ b' ≠ some y6) := ⟨by omega, fun e => by have := hpls _ e; omega⟩
      have K6 := Lib.hid (kept_new' K5.out ky6)
      have HSM6 : Hid (Sm (M * 10 ^ j)) := mul_sm HMB.out.1 (by omega)
      clear ay6 ky6 qy6 hy6
      go_wp2_with fail
      refine (Int_Mul_word p p y6 (((M * 10 ^ j : Nat) : Int)) (((M * 10 ^ j : Nat) : Int)) 10 b' b' by6 rr rr [] T T 109 w6 A6.out A6.out AY6.out hne6.out.1 (Or.inl rfl) hne6.out.1 hne6.out.2 (by omega) (by unfold B64; decide) (by rw [Int.natAbs_natCast]; exact HSM6.out)).mono ?_
      rintro e w7 ⟨rfl, b7, a7, k7, o7⟩
      have A7 : Hid (IntAt w7 p (((M * 10 ^ (j + 1) : Nat) : Int)) b7 rr T) := by
        have e : (((M * 10 ^ j : Nat) : Int)) * 10 = (((M * 10 ^ (j + 1) : Nat) : Int)) := by rw [Nat.pow_succ, ← Nat.mul_assoc]; rfl
        rw [e] at a7
        exact a7
      have K7 : Hid (Kept (fun _ => False) w w7) := K6.out.trans k7 (fun _ _ f => f) (fun i hi h => by
        rcases h with h | h
        · have := M5.out i (Or.inl h); omega
        · have := M5.out i (Or.inr h); omega)
      have M7 : Hid (∀ i, (i = p ∨ b7 = some i) → w.heap.size ≤ i) := fun i hi => by
        rcases hi with hi | hi
        · exact M5.out i (Or.inl hi)
        · rcases o7 with h | ⟨jj, h, hjj⟩
          · exact M5.out i (Or.inr (by rw [← h, hi]))
          · rw [hi] at h; injection h with h; have := K6.out.size; omega
      clear a7 k7 o7
      go_wp2_with fail
      go_roundw
      case rel => exact ⟨j + 1, V - 1, b7, rr, T, by omega, by first | rfl | (simp [g2]; done), by have := HV.out; omega, A7.out, K7.out, M7.out⟩
      case measure => simp [intOf]; omega
    · have hVV : V = -3 := by omega
      have hjr' : j = r := by omega
      subst hjr'
      have g1 : (V.tmod 3 != 0) = false := by rw [hVV]; decide
      have HVV := Lib.hid hVV
      have hdn : (dig (M * 10 ^ j)).length ≤ 8 := by
        refine Nat.le_trans (dig_len_le (k := 2) ?_) (by omega)
        have h1 : 10 ^ j ≤ 10 ^ 2 := Nat.pow_le_pow_right (by omega) (by have := HMB.out.2.2; omega)
        have h2 : M * 10 ^ j < B64 * B64 := Nat.mul_lt_mul'' HMB.out.1 (by unfold B64; omega)
        rw [Nat.pow_succ, Nat.pow_one]
        exact h2
      have hn0 : M * 10 ^ j ≠ 0 := by
        have := HMB.out.2.1
        have h2 : 1 * 1 ≤ M * 10 ^ j := Nat.mul_le_mul (by omega) (Nat.pow_pos (by omega))
        omega
      have HSMJ : Hid (Sm (M * 10 ^ j)) := mul_sm HMB.out.1 (by have := HMB.out.2.2; omega)
      have hdf := decs_facts 29 (M * 10 ^ j) (by
        have h1 : 10 ^ j ≤ 10 ^ 2 := Nat.pow_le_pow_right (by omega) (by have := HMB.out.2.2; omega)
        have h2 : M * 10 ^ j < B64 * (10 ^ 2 + 1) := Nat.mul_lt_mul'' HMB.out.1 (by omega)
        exact Nat.lt_trans h2 (by unfold B64; decide))
      clear hV hVV
      go_wp2_with fail
      refine (Int_String_of p (M * 10 ^ j) b' rr T wr A5.out hn0 hdn (HLF.out.kept K5.out (fun f => f)) (fun W v bb m hm h => divW_ten v v bb bb m W h.buf h (Sm.mono HSMJ.out hm))).mono ?_
      rintro e w8 ⟨rfl, hk⟩
      have K8 := Lib.hid (kept_new' K5.out hk)
      clear hk
      obtain ⟨hl0, hl1, hl2⟩ := hdf
      obtain ⟨cap, cs, hap, hcs⟩ := append_text (decs (M * 10 ^ j)) (by first | exact hl0 | simp) (by first | omega | (simp; omega)) w8
      have HCS : Hid (HasB cs 0 (decs (M * 10 ^ j))) := by
        intro i hi
        rw [Nat.zero_add]
        refine hcs i hi ?_
        have hl3 : ∀ x ∈ (decs (M * 10 ^ j)), x < 58 := by
          intro x hx
          first
            | exact hl2 x hx
            | (rcases List.mem_cons.1 hx with h | h
               · omega
               · exact hl2 x h)
        have hm : (decs (M * 10 ^ j)).getD i 0 ∈ (decs (M * 10 ^ j)) := by
          rw [List.getD_eq_getElem?_getD, List.getElem?_eq_getElem hi]
          exact List.getElem_mem hi
        have := hl3 _ hm
        omega
      have HNEW : Hid ((w8.drew.alloc (.cells cs 5)).heap[w8.heap.size]? = some (.cells cs 5 (0, 0))) := heap_alloc_new w8.drew _
      generalize hTT : (decs (M * 10 ^ j)) = TT at *
      have HAP := Lib.hid hap
      clear hcs hl2 hap
      go_wp2_with (at_builtin; refine wpList_append_text rfl _ _ rfl (strN TT) _ rfl rfl HAP.out ?_)
      go_ret2
      exact ⟨_, by rw [HVV.out]; rfl, bytes_of TT t HNEW.out HCS.out HL.out HT.out, (K8.out.drew).alloc _⟩
set_option maxRecDepth 100000 in
set_option maxHeartbeats 4000000 in
theorem bigCanon_neg (d M k r : Nat) (s E : Int) (b : Option Nat) (t : ByteArray) (w : World) (hd : DecAt w d (-((M * 10 ^ k : Nat) : Int)) (-s) b) (hN : M * 10 ^ k < B64) (hM : M % 10 ≠ 0) (hMb : 10 ≤ M) (hE : s + (k : Int) = E) (hr : E = -2 ∧ r = 1 ∨ E = -1 ∧ r = 2) (hs : -100 ≤ s ∧ s ≤ 100)
    (hleaf : Leaf w) (hl : (45 :: decs (M * 10 ^ r)).length = t.size) (ht : ∀ j (h : j < t.size), (45 :: decs (M * 10 ^ r)).getD j 0 = t[j].toNat) :
    Calls Tryz.prog 150 #[.agg #[.pointer (some ⟨d, 0, none⟩)], .slice none 0 0] w (CanB w t (-3)) := by
  have hk : k < 64 := by
    rcases Nat.lt_or_ge k 64 with h' | h'
    · exact h'
    · have h1 : 2 ^ 64 ≤ 10 ^ k := Nat.le_trans (Nat.pow_le_pow_right (by omega) h') (Nat.pow_le_pow_left (by omega) k)
      have h2 : 1 * 10 ^ k ≤ M * 10 ^ k := Nat.mul_le_mul_right _ (by omega)
      unfold B64 at hN
      omega
  have hMN : M ≤ M * 10 ^ k := Nat.le_mul_of_pos_right M (Nat.pow_pos (by omega))
  have HMB : Hid (M < B64 ∧ M ≠ 0 ∧ r < 3) := ⟨by omega, by omega, by omega⟩
  have hun : ∀ t', 10 ^ t' ∣ M * 10 ^ k → M * 10 ^ k / 10 ^ t' % 10 ≠ 0 → t' = k := by
    intro t' h1 h2
    rcases Nat.lt_trichotomy t' k with h | h | h
    · exfalso
      apply h2
      have e : M * 10 ^ k = M * 10 ^ (k - t') * 10 ^ t' := by rw [Nat.mul_assoc, ← Nat.pow_add, Nat.sub_add_cancel (by omega)]
      rw [e, Nat.mul_div_cancel _ (Nat.pow_pos (by omega)), show k - t' = (k - t' - 1) + 1 by omega, Nat.pow_succ, ← Nat.mul_assoc, Nat.mul_mod_left]
    · exact h
    · exfalso
      have e : 10 ^ (k + 1) ∣ M * 10 ^ k := Nat.dvd_trans (Nat.pow_dvd_pow 10 (by omega)) h1
      rw [Nat.pow_succ, Nat.mul_comm] at e
      have := Nat.dvd_of_mul_dvd_mul_right (Nat.pow_pos (by omega)) e
      exact hM (Nat.mod_eq_zero_of_dvd this)
  have HUN := Lib.hid hun
  have HQK : Hid (M * 10 ^ k / 10 ^ k = M) := Nat.mul_div_cancel _ (Nat.pow_pos (by omega))
  have HBIG : Hid (∀ t', 10 ^ t' ∣ M * 10 ^ k → M * 10 ^ k / 10 ^ t' / 10 ≠ 0) := by
    intro t' h1
    have hle : t' ≤ k := by
      rcases Nat.lt_or_ge k t' with h | h
      · exfalso
        have e : 10 ^ (k + 1) ∣ M * 10 ^ k := Nat.dvd_trans (Nat.pow_dvd_pow 10 (by omega)) h1
        rw [Nat.pow_succ, Nat.mul_comm] at e
        have := Nat.dvd_of_mul_dvd_mul_right (Nat.pow_pos (by omega)) e
        exact hM (Nat.mod_eq_zero_of_dvd this)
      · exact h
    have e : M * 10 ^ k = M * 10 ^ (k - t') * 10 ^ t' := by rw [Nat.mul_assoc, ← Nat.pow_add, Nat.sub_add_cancel hle]
    rw [e, Nat.mul_div_cancel _ (Nat.pow_pos (by omega))]
    have h2 : M * 1 ≤ M * 10 ^ (k - t') := Nat.mul_le_mul_left M (Nat.pow_pos (by omega))
    intro h3
    have := Nat.div_eq_zero_iff.1 h3
    omega
  have HD := Lib.hid hd
  have HLF := Lib.hid hleaf
  have HL := Lib.hid hl
  have HT := Lib.hid ht
  have HNN := Lib.hid hN
  have HE := Lib.hid hE
  have hb := heap_alloc_new w (.cells #[.pointer (some ⟨d, 0, none⟩)] 63)
  have k0 : Kept (fun _ => False) w (w.alloc (.cells #[.pointer (some ⟨d, 0, none⟩)] 63)) := (Kept.refl _ _).alloc _
  have K0 := Lib.hid k0
  have HN0 : Hid (M * 10 ^ k ≠ 0) := by show M * 10 ^ k ≠ 0; omega
  have HSM : Hid (Sm (M * 10 ^ k)) := Sm.one hN
  generalize hW : w.alloc (.cells #[.pointer (some ⟨d, 0, none⟩)] 63) = W at *
  have c0 : W.cell? ⟨w.heap.size, 0, none⟩ = some (.pointer (some ⟨d, 0, none⟩)) := by rw [cell_of hb]; rfl
  have D0 : Hid (DecAt W d (-((M * 10 ^ k : Nat) : Int)) (-s) b) := IntAt.old HD.out K0.out
  have e1 : wrap32 s = s := by unfold wrap32; omega
  have e2 : wrap32 (s + (k : Int)) = E := by rw [hE]; unfold wrap32; omega
  have e3 : IntKind.i32.wrap (s + (k : Int)) = E := by rw [hE, IntKind.wrap_i32]; omega
  clear hd hleaf hl ht hN hE hb k0 hun hMN hM
  go_enter Tryz.func150, Tryz.ntmps150
  go_wp2_with fail
  refine (Dec_UnscaledBig d _ _ b W D0.out).mono ?_
  rintro e w1 ⟨rfl, rfl⟩
  go_wp2_with fail
  refine (Dec_Scale d _ _ b W D0.out).mono ?_
  rintro e w1 ⟨rfl, rfl⟩
  go_wp2_with fail
  refine (NewInt_zero _).mono ?_
  rintro e w1 ⟨p1, b1, rfl, hp1, a1, k1, q1⟩
  have A1 := Lib.hid a1
  have K1 := Lib.hid (kept_new' K0.out k1)
  have D1 : Hid (DecAt w1 d (-((M * 10 ^ k : Nat) : Int)) (-s) b) := IntAt.old D0.out k1
  have hdl := IntAt.lt D0.out
  have hne : Hid (p1 ≠ d ∧ b1 ≠ some d ∧ w.heap.size ≤ p1 ∧ ∀ j, b1 = some j → w.heap.size ≤ j) := ⟨by omega, fun e => by have := q1 _ e; omega, by have := K0.out.size; omega, fun j hj => by have := K0.out.size; have := q1 j hj; omega⟩
  clear a1 k1 q1 hp1
  go_wp2_with fail
  refine (Int_Set p1 d 0 (-((M * 10 ^ k : Nat) : Int)) b1 b [] [.int .i32 (-s)] 109 112 w1 A1.out D1.out hne.out.1 hne.out.2.1 (by rw [Int.natAbs_neg, Int.natAbs_natCast]; exact HSM.out)).mono ?_
  rintro e w2 ⟨rfl, b2, a2, k2, o2⟩
  have HB2 : Hid (∀ j, b2 = some j → w.heap.size ≤ j) := fun j hj => by
    rcases o2 with h | ⟨i, h, hi⟩
    · rw [h] at hj; exact hne.out.2.2.2 j hj
    · rw [hj] at h; injection h with h; have := K1.out.size; omega
  have A2 := Lib.hid a2
  have K2 : Hid (Kept (fun _ => False) w w2) := K1.out.trans k2 (fun _ _ f => f) (fun i hi h => by
    rcases h with h | h
    · have := hne.out.2.2.1; omega
    · have := hne.out.2.2.2 i h; omega)
  clear a2 k2 o2
  go_wp2_with fail
  refine (NewInt_nat 10 (by omega) w2).mono ?_
  rintro e w3 ⟨y, by_, rfl, hy, ay, ky, qy⟩
  have AY := Lib.hid ay
  have K3 := Lib.hid (kept_new' K2.out ky)
  have A3 := Lib.hid (IntAt.old A2.out ky)
  have SP : Hid (Sep p1 b2 y by_) := (Sep.fresh hy qy (IntAt.lt A2.out) (IntAt.lts A2.out)).symm
  clear ay ky hy qy
  go_wp2_with fail
  refine (removeBigIntFactors_neg p1 y (M * 10 ^ k) 10 b2 by_ _ [] 109 109 w3 A3.out AY.out SP.out HNN.out HN0.out (by unfold B64; omega) (by omega) (fun t hd => HBIG.out t hd)).mono ?_
  rintro e w4 ⟨tt, p, bp, rp, Tp, rfl, hdv, hmod, ap, kp, hmine⟩
  obtain rfl := HUN.out tt hdv hmod
  rw [HQK.out] at ap
  have K4 : Hid (Kept (fun _ => False) w w4) := K3.out.trans kp (fun _ _ f => f) (fun i hi h => by
    rcases h with h | h
    · have := hne.out.2.2.1; omega
    · have := HB2.out i h; omega)
  have AP := Lib.hid ap
  have HMI : Hid (∀ j, (j = p ∨ bp = some j) → w.heap.size ≤ j) := fun j hj => by
    rcases Nat.lt_or_ge j w.heap.size with h | h
    · have hs3 := K3.out.size
      rcases hmine j hj (by omega) with h' | h'
      · have := hne.out.2.2.1; omega
      · have := HB2.out j h'; omega
    · exact h
  clear ap kp hmine hdv hmod A3 AY SP
  go_wp2_with fail
  go_loopw [5] (fun v5 wr => ∃ (j : Nat) (V : Int) (b' : Option Nat) (rr : List Value) (T : TypeId), j ≤ r ∧ v5 = .int .i32 V ∧ V = E - (j : Int) ∧ IntAt wr p (-((M * 10 ^ j : Nat) : Int)) b' rr T ∧ Kept (fun _ => False) w wr ∧ (∀ i, (i = p ∨ b' = some i) → w.heap.size ≤ i)) (fun v5 _ => (intOf v5 + 4).toNat)
  case atStart => exact ⟨0, E, bp, rp, Tp, Nat.zero_le _, rfl, by omega, by rw [Nat.pow_zero, Nat.mul_one]; exact AP.out, K4.out, HMI.out⟩
  case round =>
    obtain ⟨j, V, b', rr, T, hj, rfl, hV, a5, k5, m5⟩ := hrel
    have A5 := Lib.hid a5
    have K5 := Lib.hid k5
    have M5 := Lib.hid m5
    have HV := Lib.hid hV
    clear a5 k5 m5
    by_cases hjr : j < r
    · have hVV : V = -1 ∨ V = -2 := by omega
      have g1 : (V.tmod 3 != 0) = true := by rcases hVV with h | h <;> rw [h] <;> decide
      have g2 : wrap32 (V - 1) = V - 1 := by unfold wrap32; omega
      have hVb : -2 ≤ V ∧ V ≤ -1 := by omega
      clear hV hVV
      go_wp2_with fail
      refine (NewInt_nat 10 (by omega) wr).mono ?_
      rintro e w6 ⟨y6, by6, rfl, hy6, ay6, ky6, qy6⟩
      have AY6 := Lib.hid ay6
      have A6 := Lib.hid (A5.out.old ky6)
      have hpl := A5.out.lt
      have hpls := A5.out.lts
      have hne6 : Hid (p ≠ y6 ∧ b' ≠ some y6) := ⟨by omega, fun e => by have := hpls _ e; omega⟩
      have K6 := Lib.hid (kept_new' K5.out ky6)
      have HSM6 : Hid (Sm (M * 10 ^ j)) := mul_sm HMB.out.1 (by omega)
      clear ay6 ky6 qy6 hy6
      go_wp2_with fail
      refine (Int_Mul_word p p y6 (-((M * 10 ^ j : Nat) : Int)) (-((M * 10 ^ j : Nat) : Int)) 10 b' b' by6 rr rr [] T T 109 w6 A6.out A6.out AY6.out hne6.out.1 (Or.inl rfl) hne6.out.1 hne6.out.2 (by omega) (by unfold B64; decide) (by rw [Int.natAbs_neg, Int.natAbs_natCast]; exact HSM6.out)).mono ?_
      rintro e w7 ⟨rfl, b7, a7, k7, o7⟩
      have A7 : Hid (IntAt w7 p (-((M * 10 ^ (j + 1) : Nat) : Int)) b7 rr T) := by
        have e : (-((M * 10 ^ j : Nat) : Int)) * 10 = (-((M * 10 ^ (j + 1) : Nat) : Int)) := by rw [Nat.pow_succ, ← Nat.mul_assoc]; rw [Int.neg_mul]; rfl
        rw [e] at a7
        exact a7
      have K7 : Hid (Kept (fun _ => False) w w7) := K6.out.trans k7 (fun _ _ f => f) (fun i hi h => by
        rcases h with h | h
        · have := M5.out i (Or.inl h); omega
        · have := M5.out i (Or.inr h); omega)
      have M7 : Hid (∀ i, (i = p ∨ b7 = some i) → w.heap.size ≤ i) := fun i hi => by
        rcases hi with hi | hi
        · exact M5.out i (Or.inl hi)
        · rcases o7 with h | ⟨jj, h, hjj⟩
          · exact M5.out i (Or.inr (by rw [← h, hi]))
          · rw [hi] at h; injection h with h; have := K6.out.size; omega
      clear a7 k7 o7
      go_wp2_with fail
      go_roundw
      case rel => exact ⟨j + 1, V - 1, b7, rr, T, by omega, by first | rfl | (simp [g2]; done), by have := HV.out; omega, A7.out, K7.out, M7.out⟩
      case measure => simp [intOf]; omega
    · have hVV : V = -3 := by omega
      have hjr' : j = r := by omega
      subst hjr'
      have g1 : (V.tmod 3 != 0) = false := by rw [hVV]; decide
      have HVV := Lib.hid hVV
      have hdn : (dig (M * 10 ^ j)).length ≤ 8 := by
        refine Nat.le_trans (dig_len_le (k := 2) ?_) (by omega)
        have h1 : 10 ^ j ≤ 10 ^ 2 := Nat.pow_le_pow_right (by omega) (by have := HMB.out.2.2; omega)
        have h2 : M * 10 ^ j < B64 * B64 := Nat.mul_lt_mul'' HMB.out.1 (by unfold B64; omega)
        rw [Nat.pow_succ, Nat.pow_one]
        exact h2
      have hn0 : M * 10 ^ j ≠ 0 := by
        have := HMB.out.2.1
        have h2 : 1 * 1 ≤ M * 10 ^ j := Nat.mul_le_mul (by omega) (Nat.pow_pos (by omega))
        omega
      have HSMJ : Hid (Sm (M * 10 ^ j)) := mul_sm HMB.out.1 (by have := HMB.out.2.2; omega)
      have hdf := decs_facts 29 (M * 10 ^ j) (by
        have h1 : 10 ^ j ≤ 10 ^ 2 := Nat.pow_le_pow_right (by omega) (by have := HMB.out.2.2; omega)
        have h2 : M * 10 ^ j < B64 * (10 ^ 2 + 1) := Nat.mul_lt_mul'' HMB.out.1 (by omega)
        exact Nat.lt_trans h2 (by unfold B64; decide))
      clear hV hVV
      go_wp2_with fail
      refine (Int_String_neg p (M * 10 ^ j) b' rr T wr A5.out hn0 hdn (HLF.out.kept K5.out (fun f => f)) (fun W v bb m hm h => divW_ten v v bb bb m W h.buf h (Sm.mono HSMJ.out hm))).mono ?_
      rintro e w8 ⟨rfl, hk⟩
      have K8 := Lib.hid (kept_new' K5.out hk)
      clear hk
      obtain ⟨hl0, hl1, hl2⟩ := hdf
      obtain ⟨cap, cs, hap, hcs⟩ := append_text (45 :: decs (M * 10 ^ j)) (by first | exact hl0 | simp) (by first | omega | (simp; omega)) w8
      have HCS : Hid (HasB cs 0 (45 :: decs (M * 10 ^ j))) := by
        intro i hi
        rw [Nat.zero_add]
        refine hcs i hi ?_
        have hl3 : ∀ x ∈ (45 :: decs (M * 10 ^ j)), x < 58 := by
          intro x hx
          first
            | exact hl2 x hx
            | (rcases List.mem_cons.1 hx with h | h
               · omega
               · exact hl2 x h)
        have hm : (45 :: decs (M * 10 ^ j)).getD i 0 ∈ (45 :: decs (M * 10 ^ j)) := by
          rw [List.getD_eq_getElem?_getD, List.getElem?_eq_getElem hi]
          exact List.getElem_mem hi
        have := hl3 _ hm
        omega
      have HNEW : Hid ((w8.drew.alloc (.cells cs 5)).heap[w8.heap.size]? = some (.cells cs 5 (0, 0))) := heap_alloc_new w8.drew _
      generalize hTT : (45 :: decs (M * 10 ^ j)) = TT at *
      have HAP := Lib.hid hap
      clear hcs hl2 hap
      go_wp2_with (at_builtin; refine wpList_append_text rfl _ _ rfl (strN TT) _ rfl rfl HAP.out ?_)
      go_ret2
      exact ⟨_, by rw [HVV.out]; rfl, bytes_of TT t HNEW.out HCS.out HL.out HT.out, (K8.out.drew).alloc _⟩
end Go.Proofs.YtjebnpkebccffaaGreatDoor
