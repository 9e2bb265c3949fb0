import Derived.Test.YtjebnpkebccffaaGreatDoorKCmv
import Derived.Test.YtjebnpkebccffaaGreatDoorKPqa
set_option linter.unusedSimpArgs false
set_option linter.unusedVariables false
set_option linter.unusedSectionVars false
namespace Go.Proofs.YtjebnpkebccffaaGreatDoor
open Go.RowKit
theorem RelM.look_none {w : World} {l : List ((Int × Int) × Value)} {m : List ((Int × Int) × ByteArray)} (h : RelM w l m) (k : Int × Int) (ht : lkT m k = none) (i : Nat) : lkp l k i = none := by
  induction l generalizing m i with
  | nil => rfl
  | cons p l ih =>
    cases m with
    | nil => exact absurd h (by simp [RelM])
    | cons q m =>
      obtain ⟨h1, h2, h3⟩ := h
      by_cases hk : p.1 = k
      · simp only [lkT, ← h1, if_pos hk] at ht
        cases ht
      · simp only [lkT, ← h1, if_neg hk] at ht
        simp only [lkp, if_neg hk]
        exact ih h3 ht (i + 1)
set_option maxRecDepth 100000 in
set_option maxHeartbeats 1000000 in
theorem lconstruct_none (d o r1 r2 r3 : Nat) (l1 : List (ByteArray × Value)) (l2 : List ((Int × Int) × Value)) (tx : List ((Int × Int) × ByteArray)) (a b : Int) (w : World) (h : Lst w d o r1 r2 r3 l1 l2 tx) (hl : lkT tx (a, b) = none) :
    Calls Tryz.prog 329 #[.pointer (some ⟨d, o, none⟩), .int .i32 a, .int .i32 b] w (ConT w ⟨#[]⟩) := by
  have hc := h.c2
  obtain ⟨l3, m3, R3⟩ := h.m3
  have hn := R3.look_none (a, b) hl 0
  have hk := run_look encP 148 155 57 Tryz.und148 keyP w r3 l3 m3 (a, b) (.slice none 0 0) (zero57 w)
  rw [hn] at hk
  simp only [encP, Option.map_none, Option.getD_none, Option.isSome_none] at hk
  have q1 := fun a b w => build155 a b w
  clear h m3 R3 hn
  go_enter Tryz.func329, Tryz.ntmps329
  go_wp2_with fail
  go_ret2
  exact ⟨_, _, rfl, Or.inl ⟨rfl, rfl⟩, Kept.refl _ _⟩
set_option maxRecDepth 100000 in
set_option maxHeartbeats 1000000 in
theorem construct_bin0 (d : Nat) (w : World) (h : Suffixer w d) :
    Calls Tryz.prog 327 #[.pointer (some ⟨d, 0, none⟩), .int .i32 2, .int .i32 0, fBin] w (ConT w ⟨#[]⟩) := by
  obtain ⟨r1, r2, r3, s1, s2, s3, h1, h2⟩ := h
  have hl : lkT (sufT binE) (2, 0) = none := by kernel_rfl
  have HC := Lib.hid (lconstruct_none d 3 r1 r2 r3 _ _ _ 2 0 w h1 hl)
  clear h1 h2 hl
  unfold fBin
  go_enter Tryz.func327, Tryz.ntmps327
  go_wp2_with fail
  refine HC.out.mono ?_
  rintro e w1 ⟨v, ok, rfl, hb, hk⟩
  have HB := Lib.hid hb
  clear hb
  go_wp2_with fail
  go_ret2
  exact ⟨v, ok, rfl, HB.out, hk⟩
theorem construct_k (k : Nat) (hk : k ≤ 6) (d : Nat) (w : World) (h : Suffixer w d) :
    Calls Tryz.prog 327 #[.pointer (some ⟨d, 0, none⟩), .int .i32 2, .int .i32 ((k : Int) * 10), fBin] w (ConT w (binS k)) := by
  by_cases h0 : k = 0
  · subst h0
    exact construct_bin0 d w h
  · exact (construct_bin d 2 _ _ w h (suf_bin k (by omega) hk)).mono (fun e w' h => conT_of h)
end Go.Proofs.YtjebnpkebccffaaGreatDoor
namespace Go.Proofs.YtjebnpkebccffaaGreatDoor
open Go.RowKit
theorem may_int {M : Nat} {E : Int} (hE : 0 ≤ E) (h : M * 10 ^ (E + 3).toNat ≤ 9223372036854775807 * 1000) : M * 10 ^ E.toNat ≤ 9223372036854775807 := by
  rw [show (E + 3).toNat = E.toNat + 3 by omega, Nat.pow_add, ← Nat.mul_assoc] at h
  exact Nat.le_of_mul_le_mul_right h (by decide)
theorem intD_num {neg : Bool} {M : Nat} {E : Int} (hM : M ≠ 0) (hE : 0 ≤ E) (hb : M * 10 ^ E.toNat ≤ 9223372036854775807) (h : (intD ⟨neg, dgs M, E⟩).2 = true) :
    (intD ⟨neg, dgs M, E⟩).1 = if neg = true then -((M * 10 ^ E.toNat : Nat) : Int) else ((M * 10 ^ E.toNat : Nat) : Int) := by
  have hne : (⟨neg, dgs M, E⟩ : Dm).ds ≠ [] := dgs_ne hM
  have hw : dv (wideL ⟨neg, dgs M, E⟩ 0) = M * 10 ^ E.toNat := by
    unfold wideL
    rw [if_neg hne]
    show dv (dgs M ++ zs (E - 0).toNat) = _
    rw [Int.sub_zero, ← dgs_zs M E.toNat hM, dv_dgs]
  unfold intD at h ⊢
  rw [hw] at h ⊢
  generalize M * 10 ^ E.toNat = X at *
  split at h
  · cases h
  · rename_i hc
    rw [if_neg hc]
    split
    · show wrap64 (IntKind.u64.wrap (-(X : Int))) = _
      rw [IntKind.wrap_u64]
      unfold wrap64
      omega
    · show wrap64 (X : Int) = _
      unfold wrap64
      omega
theorem txtI_num (neg : Bool) (N : Nat) (hN : N ≠ 0) : txtI (if neg = true then -((N : Nat) : Int) else ((N : Nat) : Int)) = itoaB (if neg = true then -((N : Nat) : Int) else ((N : Nat) : Int)) := by
  obtain ⟨M, k, e, hM⟩ := prim N hN
  have hM0 : M ≠ 0 := fun h => by rw [h] at hM; exact hM rfl
  have key : ∀ b : Bool, txtD (decL b (dgs N) 0) = txtL b (dgs N) := by
    intro b
    have hn := nd_pow b M k 0
    unfold nd at hn
    have hp := nd_prim b M (0 + (k : Int)) hM
    unfold nd at hp
    rw [e, hn, hp, Int.zero_add, txtD_num b M k hM0]
  unfold txtI
  cases neg with
  | false =>
    simp only [Bool.false_eq_true, if_false]
    rw [decF (show ¬ ((N : Nat) : Int) < 0 by omega), Int.natAbs_natCast, key false, itoaB_pos N hN]
  | true =>
    simp only [if_true]
    rw [decT (show -((N : Nat) : Int) < 0 by omega), Int.natAbs_neg, Int.natAbs_natCast, key true, itoaB_neg N hN]
end Go.Proofs.YtjebnpkebccffaaGreatDoor
namespace Go.Proofs.YtjebnpkebccffaaGreatDoor
open Go.RowKit
theorem cmpZ_mul {a b : Int} {P : Int} (h : 0 < P) : cmpZ (a * P) (b * P) = cmpZ a b := by
  rcases Int.lt_trichotomy a b with h1 | h1 | h1
  · rw [cmpZ_lt h1, cmpZ_lt (Int.mul_lt_mul_of_pos_right h1 h)]
  · rw [h1, cmpZ_self, cmpZ_self]
  · rw [cmpZ_gt h1, cmpZ_gt (Int.mul_lt_mul_of_pos_right h1 h)]
theorem cmpV_num (Z c s : Int) (k e : Nat) (hE : s + (k : Int) = (e : Int)) : cmpV (Z * ((10 ^ k : Nat) : Int)) s c = cmpZ (Z * ((10 ^ e : Nat) : Int)) c := by
  unfold cmpV
  split
  · rename_i hs
    rw [Int.mul_assoc, ← Int.natCast_mul, ← Nat.pow_add, show k + s.toNat = e by omega]
  · rename_i hs
    have h : k = e + (-s).toNat := by omega
    rw [h, Nat.pow_add, Int.natCast_mul, ← Int.mul_assoc]
    have hp : 0 < 10 ^ (-s).toNat := Nat.pow_pos (by omega)
    exact cmpZ_mul (by omega)
end Go.Proofs.YtjebnpkebccffaaGreatDoor
namespace Go.Proofs.YtjebnpkebccffaaGreatDoor
open Go.RowKit
def sgI (neg : Bool) (N : Nat) : Int := if neg = true then -((N : Nat) : Int) else ((N : Nat) : Int)
theorem itoaB_sg (neg : Bool) (N : Nat) (h : N ≠ 0) : itoaB (sgI neg N) = txtL neg (dgs N) := by
  unfold sgI
  cases neg with
  | false => exact itoaB_pos N h
  | true => exact itoaB_neg N h
theorem can151_fits (neg : Bool) (M k r : Nat) (s E : Int) (w : World) (hM : M % 10 ≠ 0) (hv : M * 10 ^ k ≤ 9223372036854775807) (hE : s + (k : Int) = E) (hs : -100 ≤ s ∧ s ≤ 100) (hEb : -100 ≤ E ∧ E ≤ 100) (hk : k < 64)
    (hr : r = 0 ∧ E.tmod 3 = 0 ∨ r = 1 ∧ (E.tmod 3 = 1 ∨ E.tmod 3 = -2) ∨ r = 2 ∧ (E.tmod 3 = 2 ∨ E.tmod 3 = -1)) (hf : M * 10 ^ r ≤ 9223372036854775807) (ht : Tab10 w) :
    Calls Tryz.prog 151 #[.agg #[.int .i64 (sgI neg (M * 10 ^ k)), .int .i32 s], .slice none 0 0] w (CanB w (txtL neg (dgs (M * 10 ^ r))) (E - (r : Int))) := by
  have hM0 : M ≠ 0 := fun h => by rw [h] at hM; exact hM rfl
  have h0 : M * 10 ^ r ≠ 0 := Nat.mul_ne_zero hM0 (Nat.pos_iff_ne_zero.1 (Nat.pow_pos (by omega)))
  rw [← itoaB_sg neg _ h0]
  unfold sgI
  cases neg with
  | false => exact amtCanon_pos M k r s E w hM hv hE hs hEb hk hr hf ht
  | true => exact amtCanon_neg M k r s E w hM hv hE hs hEb hk hr hf ht
theorem fac10_sg (neg : Bool) (M k : Nat) (hM : M % 10 ≠ 0) (h : M * 10 ^ k ≤ 9223372036854775807) (w : World) : Calls Tryz.prog 191 #[.int .i64 (sgI neg (M * 10 ^ k)), .int .i64 10] w (FacRes w (sgI neg M) k) := by
  unfold sgI
  cases neg with
  | false => exact fac10_pos M k hM h w
  | true => exact fac10_neg M k hM h w
theorem big_sg (neg : Bool) (d M k r : Nat) (s E : Int) (b : Option Nat) (w : World) (hd : DecAt w d (sgI neg (M * 10 ^ k)) (-s) b) (hN : M * 10 ^ k < B64) (hM : M % 10 ≠ 0) (hMb : 10 ≤ M) (hE : s + (k : Int) = E) (hr : E = -2 ∧ r = 1 ∨ E = -1 ∧ r = 2) (hs : -100 ≤ s ∧ s ≤ 100) (hleaf : Leaf w) :
    Calls Tryz.prog 150 #[.agg #[.pointer (some ⟨d, 0, none⟩)], .slice none 0 0] w (CanB w (txtL neg (dgs (M * 10 ^ r))) (-3)) := by
  have hM0 : M ≠ 0 := by omega
  have h0 : M * 10 ^ r ≠ 0 := Nat.mul_ne_zero hM0 (Nat.pos_iff_ne_zero.1 (Nat.pow_pos (by omega)))
  unfold sgI at hd
  cases neg with
  | false =>
    obtain ⟨h1, h2⟩ := txt_bytes_pos _ h0
    exact bigCanon_pos d M k r s E b _ w hd hN hM hMb hE hr hs hleaf h1 h2
  | true =>
    obtain ⟨h1, h2⟩ := txt_bytes_neg _ h0
    exact bigCanon_neg d M k r s E b _ w hd hN hM hMb hE hr hs hleaf h1 h2
theorem can151_over (neg : Bool) (M k r : Nat) (s E : Int) (w : World) (hM : M % 10 ≠ 0) (hn : -9223372036854775808 ≤ sgI neg (M * 10 ^ k) ∧ sgI neg (M * 10 ^ k) ≤ 9223372036854775807)
    (hfac : ∀ w, Calls Tryz.prog 191 #[.int .i64 (sgI neg (M * 10 ^ k)), .int .i64 10] w (FacRes w (sgI neg M) k)) (hE : s + (k : Int) = E) (hs : -100 ≤ s ∧ s ≤ 100)
    (hr : E = -2 ∧ r = 1 ∨ E = -1 ∧ r = 2) (hov : 9223372036854775807 < M * 10 ^ r) (hleaf : Leaf w) :
    Calls Tryz.prog 151 #[.agg #[.int .i64 (sgI neg (M * 10 ^ k)), .int .i32 s], .slice none 0 0] w (CanB w (txtL neg (dgs (M * 10 ^ r))) (-3)) := by
  have hMk : M ≤ M * 10 ^ k := Nat.le_mul_of_pos_right M (Nat.pow_pos (by omega))
  have hall : M * 10 ^ k ≤ 9223372036854775808 ∧ (-9223372036854775808 ≤ sgI neg M ∧ sgI neg M ≤ 9223372036854775807) := by
    cases neg with
    | false =>
      have h1 : -9223372036854775808 ≤ ((M * 10 ^ k : Nat) : Int) ∧ ((M * 10 ^ k : Nat) : Int) ≤ 9223372036854775807 := hn
      show _ ∧ (-9223372036854775808 ≤ ((M : Nat) : Int) ∧ ((M : Nat) : Int) ≤ 9223372036854775807)
      generalize M * 10 ^ k = N at *
      omega
    | true =>
      have h1 : -9223372036854775808 ≤ -((M * 10 ^ k : Nat) : Int) ∧ -((M * 10 ^ k : Nat) : Int) ≤ 9223372036854775807 := hn
      show _ ∧ (-9223372036854775808 ≤ -((M : Nat) : Int) ∧ -((M : Nat) : Int) ≤ 9223372036854775807)
      generalize M * 10 ^ k = N at *
      omega
  obtain ⟨hNb, hmb, hmb2⟩ := hall
  have hbig : ∀ w' p b, DecAt w' p (sgI neg (M * 10 ^ k)) (-s) b → Kept (fun _ => False) w w' → Calls Tryz.prog 150 #[.agg #[.pointer (some ⟨p, 0, none⟩)], .slice none 0 0] w' (CanB w' (txtL neg (dgs (M * 10 ^ r))) (-3)) := fun w' p b hd hk =>
    big_sg neg p M k r s E b w' hd (by unfold B64; omega) hM (by
      rcases hr with ⟨_, rfl⟩ | ⟨_, rfl⟩ <;> omega) hE hr hs (hleaf.kept hk (fun f => f))
  rcases hr with ⟨rfl, rfl⟩ | ⟨rfl, rfl⟩
  · refine amtCanon_over1 (sgI neg (M * 10 ^ k)) (sgI neg M) s (-2) (-3) k _ w hfac hE hs rfl ⟨hmb, hmb2⟩ ?_ hn hbig
    cases neg with
    | false => show ¬ (-9223372036854775807 ≤ ((M : Nat) : Int) * 10 ∧ ((M : Nat) : Int) * 10 ≤ 9223372036854775807); omega
    | true => show ¬ (-9223372036854775807 ≤ -((M : Nat) : Int) * 10 ∧ -((M : Nat) : Int) * 10 ≤ 9223372036854775807); omega
  · refine amtCanon_over2 (sgI neg (M * 10 ^ k)) (sgI neg M) s (-1) (-3) k _ w hfac hE hs rfl ⟨hmb, hmb2⟩ ?_ hn hbig
    cases neg with
    | false => show ¬ (-9223372036854775807 ≤ ((M : Nat) : Int) * 100 ∧ ((M : Nat) : Int) * 100 ≤ 9223372036854775807); omega
    | true => show ¬ (-9223372036854775807 ≤ -((M : Nat) : Int) * 100 ∧ -((M : Nat) : Int) * 100 ≤ 9223372036854775807); omega
end Go.Proofs.YtjebnpkebccffaaGreatDoor
namespace Go.Proofs.YtjebnpkebccffaaGreatDoor
open Go.RowKit
theorem exp_hi {M : Nat} {E : Int} (hM : M ≠ 0) (h3 : -3 ≤ E) (h : M * 10 ^ (E + 3).toNat ≤ 9223372036854775807 * 1000) : E ≤ 18 := by
  rcases Int.lt_or_le 18 E with h' | h'
  · exfalso
    have h1 : 10 ^ 22 ≤ 10 ^ (E + 3).toNat := Nat.pow_le_pow_right (by omega) (by omega)
    have h2 : 1 * 10 ^ (E + 3).toNat ≤ M * 10 ^ (E + 3).toNat := Nat.mul_le_mul_right _ (by omega)
    have h4 : (10 : Nat) ^ 22 = 10000000000000000000000 := by decide
    omega
  · exact h'
theorem pow_k {M k : Nat} (hM : M ≠ 0) (h : M * 10 ^ k ≤ 9223372036854775808) : k < 64 := by
  rcases Nat.lt_or_ge k 64 with h' | h'
  · exact h'
  · have h1 : 2 ^ 64 ≤ 10 ^ k := Nat.le_trans (Nat.pow_le_pow_right (by omega) h') (Nat.pow_le_pow_left (by omega) k)
    have h2 : 1 * 10 ^ k ≤ M * 10 ^ k := Nat.mul_le_mul_right _ (by omega)
    have h3 : (2 : Nat) ^ 64 = 18446744073709551616 := by decide
    omega
theorem can151_all (neg : Bool) (M k : Nat) (s E : Int) (w : World) (hM : M % 10 ≠ 0) (hn : -9223372036854775808 ≤ sgI neg (M * 10 ^ k) ∧ sgI neg (M * 10 ^ k) ≤ 9223372036854775807) (hE : s + (k : Int) = E) (hs : -60 ≤ s ∧ s ≤ 60)
    (h3 : -3 ≤ E) (hmax : M * 10 ^ (E + 3).toNat ≤ 9223372036854775807 * 1000) (ht : Tab10 w) (hleaf : Leaf w) :
    Calls Tryz.prog 151 #[.agg #[.int .i64 (sgI neg (M * 10 ^ k)), .int .i32 s], .slice none 0 0] w (CanB w (txtD ⟨neg, dgs M, E - eF ⟨neg, dgs M, E⟩⟩) (eF ⟨neg, dgs M, E⟩)) := by
  have hM0 : M ≠ 0 := fun h => by rw [h] at hM; exact hM rfl
  have hE18 := exp_hi hM0 h3 hmax
  obtain ⟨r, hr, hr2, hr3, -⟩ := eF_num neg (dgs M) E h3 (by omega)
  have he : eF ⟨neg, dgs M, E⟩ = E - (r : Int) := by omega
  rw [hr, txtD_num neg M r hM0, he]
  have hMk : M ≤ M * 10 ^ k := Nat.le_mul_of_pos_right M (Nat.pow_pos (by omega))
  have hN : M * 10 ^ k ≤ 9223372036854775808 ∧ (neg = false → M * 10 ^ k ≤ 9223372036854775807) := by
    cases neg with
    | false =>
      have h1 : -9223372036854775808 ≤ ((M * 10 ^ k : Nat) : Int) ∧ ((M * 10 ^ k : Nat) : Int) ≤ 9223372036854775807 := hn
      generalize M * 10 ^ k = N at *
      exact ⟨by omega, fun _ => by omega⟩
    | true =>
      have h1 : -9223372036854775808 ≤ -((M * 10 ^ k : Nat) : Int) ∧ -((M * 10 ^ k : Nat) : Int) ≤ 9223372036854775807 := hn
      generalize M * 10 ^ k = N at *
      exact ⟨by omega, fun h => by cases h⟩
  have hmin : ¬ M * 10 ^ k ≤ 9223372036854775807 → neg = true ∧ k = 0 ∧ M = 9223372036854775808 := by
    intro h
    have hk0 : k = 0 := by
      cases k with
      | zero => rfl
      | succ k =>
        exfalso
        rw [Nat.pow_succ, ← Nat.mul_assoc] at h hN
        generalize M * 10 ^ k = X at *
        omega
    subst hk0
    rw [Nat.pow_zero, Nat.mul_one] at h hN
    refine ⟨?_, rfl, by omega⟩
    cases neg with
    | false => exact absurd (hN.2 rfl) h
    | true => rfl
  by_cases hR : M * 10 ^ r ≤ 9223372036854775807
  · have hMr : M ≤ M * 10 ^ r := Nat.le_mul_of_pos_right M (Nat.pow_pos (by omega))
    have hv : M * 10 ^ k ≤ 9223372036854775807 := by
      rcases Nat.lt_or_ge 9223372036854775807 (M * 10 ^ k) with h | h
      · obtain ⟨_, _, h5⟩ := hmin (by omega)
        omega
      · exact h
    exact can151_fits neg M k r s E w hM hv hE (by omega) (by omega) (pow_k hM0 hN.1) hr3 hR ht
  · have hEneg : E < 0 := by
      rcases Int.lt_or_le E 0 with h | h
      · exact h
      · exfalso
        have h5 := may_int h hmax
        have h6 : r ≤ E.toNat := by
          rcases hr3 with ⟨h7, _⟩ | ⟨h7, h8⟩ | ⟨h7, h8⟩
          · omega
          · have : E ≠ 0 := fun e => by rw [e] at h8; revert h8; decide
            omega
          · have : E ≠ 0 := fun e => by rw [e] at h8; revert h8; decide
            have : E ≠ 1 := fun e => by rw [e] at h8; revert h8; decide
            omega
        have h7 : M * 10 ^ r ≤ M * 10 ^ E.toNat := Nat.mul_le_mul_left M (Nat.pow_le_pow_right (by omega) h6)
        omega
    have hEE : E = -3 ∧ r = 0 ∨ E = -2 ∧ r = 1 ∨ E = -1 ∧ r = 2 := by
      rcases (show E = -3 ∨ E = -2 ∨ E = -1 by omega) with rfl | rfl | rfl
      · rcases hr3 with ⟨h7, _⟩ | ⟨h7, h8⟩ | ⟨h7, h8⟩
        · exact Or.inl ⟨rfl, h7⟩
        · exact absurd h8 (by decide)
        · exact absurd h8 (by decide)
      · rcases hr3 with ⟨h7, h8⟩ | ⟨h7, h8⟩ | ⟨h7, h8⟩
        · exact absurd h8 (by decide)
        · exact Or.inr (Or.inl ⟨rfl, h7⟩)
        · exact absurd h8 (by decide)
      · rcases hr3 with ⟨h7, h8⟩ | ⟨h7, h8⟩ | ⟨h7, h8⟩
        · exact absurd h8 (by decide)
        · exact absurd h8 (by decide)
        · exact Or.inr (Or.inr ⟨rfl, h7⟩)
    have hfac : ∀ w, Calls Tryz.prog 191 #[.int .i64 (sgI neg (M * 10 ^ k)), .int .i64 10] w (FacRes w (sgI neg M) k) := by
      intro w
      by_cases hv : M * 10 ^ k ≤ 9223372036854775807
      · exact fac10_sg neg M k hM hv w
      · obtain ⟨rfl, rfl, h5⟩ := hmin hv
        rw [Nat.pow_zero, Nat.mul_one]
        exact fac10_min (sgI true M) (by show -((M : Nat) : Int) = _; omega) w
    rcases hEE with ⟨rfl, rfl⟩ | h | h
    · rw [Nat.pow_zero, Nat.mul_one] at hR ⊢
      obtain ⟨rfl, rfl, h5⟩ := hmin (by omega)
      rw [Nat.pow_zero, Nat.mul_one, ← itoaB_sg true M hM0]
      have := amtCanon_min3 (sgI true M) s w (by show -((M : Nat) : Int) = _; omega) (by omega) ht
      exact this
    · have := can151_over neg M k r s E w hM hn hfac hE (by omega) (Or.inl h) (by omega) hleaf
      rw [show E - (r : Int) = -3 by omega]
      exact this
    · have := can151_over neg M k r s E w hM hn hfac hE (by omega) (Or.inr h) (by omega) hleaf
      rw [show E - (r : Int) = -3 by omega]
      exact this
end Go.Proofs.YtjebnpkebccffaaGreatDoor
namespace Go.Proofs.YtjebnpkebccffaaGreatDoor
open Go.RowKit
theorem con_dec (x : Int) (h : x = -3 ∨ x = 0 ∨ x = 3 ∨ x = 6 ∨ x = 9 ∨ x = 12 ∨ x = 15 ∨ x = 18) (d : Nat) (w : World) (hs : Suffixer w d) :
    Calls Tryz.prog 327 #[.pointer (some ⟨d, 0, none⟩), .int .i32 10, .int .i32 x, fDec] w (ConT w (sufX 2 x)) :=
  (construct_dec d 10 x _ w hs (suf_dec x h)).mono (fun e w' h => conT_of h)
theorem con_exp (x : Int) (h : x = -3 ∨ x = 0 ∨ x = 3 ∨ x = 6 ∨ x = 9 ∨ x = 12 ∨ x = 15 ∨ x = 18) (d : Nat) (w : World) :
    Calls Tryz.prog 327 #[.pointer (some ⟨d, 0, none⟩), .int .i32 10, .int .i32 x, fExp] w (ConT w (sufX 0 x)) := by
  by_cases h0 : x = 0
  · subst h0
    exact construct_exp0 d w
  · rw [suf_exp x (by omega)]
    exact (construct_exp d x (by omega) w).mono (fun e w' h => conT_of h)
theorem can114 (neg : Bool) (M k : Nat) (s E : Int) (fmt : ByteArray) (p : Nat) (w : World) (hq : QiAt w p (sgI neg (M * 10 ^ k)) s fmt) (hM : M % 10 ≠ 0) (hn : -9223372036854775808 ≤ sgI neg (M * 10 ^ k) ∧ sgI neg (M * 10 ^ k) ≤ 9223372036854775807) (hE : s + (k : Int) = E) (hs : -60 ≤ s ∧ s ≤ 60)
    (h3 : -3 ≤ E) (hmax : M * 10 ^ (E + 3).toNat ≤ 9223372036854775807 * 1000) (ht : Tab10 w) (hleaf : Leaf w) :
    ∀ w', Kept (fun _ => False) w w' → Calls Tryz.prog 114 #[.pointer (some ⟨p, 0, none⟩), .slice none 0 0] w' (CanB w' (txtD ⟨neg, dgs M, E - eF ⟨neg, dgs M, E⟩⟩) (eF ⟨neg, dgs M, E⟩)) := fun w' hk =>
  AsCanI p _ s fmt w' _ _ (hq.old hk) (can151_all neg M k s E w' hM hn hE hs h3 hmax (ht.old hk) (hleaf.kept hk (fun f => f)))
theorem sgI_ne (neg : Bool) {N : Nat} (h : N ≠ 0) : sgI neg N ≠ 0 := by
  unfold sgI
  cases neg <;> simp <;> omega
theorem txtD_small (neg : Bool) (M r : Nat) (hM : M ≠ 0) (h : M * 10 ^ r < 10 ^ 40) : (txtD ⟨neg, dgs M, (r : Int)⟩).size ≤ 1000 := by
  rw [txtD_num neg M r hM]
  have h1 := txtL_size neg (dgs (M * 10 ^ r))
  have h2 := (dgs_le 40 _ h).1
  omega
theorem mul_r {M r : Nat} {E : Int} (h3 : -3 ≤ E) (hr : r ≤ 2) (h : M * 10 ^ (E + 3).toNat ≤ 9223372036854775807 * 1000) : M * 10 ^ r < 10 ^ 40 := by
  have h1 : M * 1 ≤ M * 10 ^ (E + 3).toNat := Nat.mul_le_mul_left M (Nat.pow_pos (by omega))
  have h2 : 10 ^ r ≤ 10 ^ 2 := Nat.pow_le_pow_right (by omega) hr
  have h4 : M * 10 ^ r ≤ M * 10 ^ 2 := Nat.mul_le_mul_left M h2
  have h5 : (10 : Nat) ^ 40 = 10000000000000000000000000000000000000000 := by decide
  omega
theorem sufX_small (f x : Int) (h : x = -3 ∨ x = 0 ∨ x = 3 ∨ x = 6 ∨ x = 9 ∨ x = 12 ∨ x = 15 ∨ x = 18) (hf : f = 0 ∨ f = 2) : (sufX f x).size ≤ 1000 := by
  rcases hf with rfl | rfl
  · by_cases h0 : x = 0
    · subst h0; decide
    · rw [suf_exp x (by omega)]
      unfold expT
      repeat' split
      all_goals decide
  · rcases h with rfl | rfl | rfl | rfl | rfl | rfl | rfl | rfl <;> decide
theorem canon_decimal (neg : Bool) (M k : Nat) (s E f : Int) (hf : f = 0 ∨ f = 2) (p : Nat) (w : World) (hq : QiAt w p (sgI neg (M * 10 ^ k)) s (fmtB f)) (hM : M % 10 ≠ 0) (hn : -9223372036854775808 ≤ sgI neg (M * 10 ^ k) ∧ sgI neg (M * 10 ^ k) ≤ 9223372036854775807) (hE : s + (k : Int) = E) (hs : -60 ≤ s ∧ s ≤ 60)
    (h3 : -3 ≤ E) (hmax : M * 10 ^ (E + 3).toNat ≤ 9223372036854775807 * 1000) (ht : Tab10 w) (hleaf : Leaf w) :
    Calls Tryz.prog 39 #[.pointer (some ⟨p, 0, none⟩)] w (StrK w (txtD ⟨neg, dgs M, E - eF ⟨neg, dgs M, E⟩⟩ ++ sufX f (eF ⟨neg, dgs M, E⟩))) := by
  have hM0 : M ≠ 0 := fun h => by rw [h] at hM; exact hM rfl
  have hE18 := exp_hi hM0 h3 hmax
  obtain ⟨r, hr, hr2, hr3, h0⟩ := eF_num neg (dgs M) E h3 (by omega)
  have hlo : -3 ≤ eF ⟨neg, dgs M, E⟩ := by
    rcases Int.lt_or_le (eF ⟨neg, dgs M, E⟩) (-3) with h | h
    · exfalso
      rcases (show eF ⟨neg, dgs M, E⟩ = -4 ∨ eF ⟨neg, dgs M, E⟩ = -5 by omega) with h' | h'
      · rw [h'] at h0; exact absurd h0 (by decide)
      · rw [h'] at h0; exact absurd h0 (by decide)
    · exact h
  have hv := eF_vals (x := eF ⟨neg, dgs M, E⟩) hlo (by omega) h0
  have hn0 : sgI neg (M * 10 ^ k) ≠ 0 := sgI_ne neg (Nat.mul_ne_zero hM0 (Nat.pos_iff_ne_zero.1 (Nat.pow_pos (by omega))))
  have hc := can114 neg M k s E (fmtB f) p w hq hM hn hE hs h3 hmax ht hleaf
  have hsz : (txtD ⟨neg, dgs M, E - eF ⟨neg, dgs M, E⟩⟩).size ≤ 1000 := by
    rw [hr]; exact txtD_small neg M r hM0 (mul_r h3 hr2 hmax)
  refine canonicalI p _ _ w hsz (sufX_small f _ hv hf) ?_
  rcases hf with rfl | rfl
  · exact CanonI_exp p _ s _ _ _ w hq hn0 hc (fun dd w' hsf => con_exp _ hv dd w')
  · exact CanonI_dec p _ s _ _ _ w hq hn0 hc (fun dd w' hsf => con_dec _ hv dd w' hsf)
end Go.Proofs.YtjebnpkebccffaaGreatDoor
namespace Go.Proofs.YtjebnpkebccffaaGreatDoor
open Go.RowKit
theorem sgI_mul (neg : Bool) (M P : Nat) : sgI neg (M * P) = sgI neg M * ((P : Nat) : Int) := by
  unfold sgI
  cases neg with
  | false => exact Int.natCast_mul M P
  | true =>
    show -((M * P : Nat) : Int) = -((M : Nat) : Int) * _
    rw [Int.natCast_mul, Int.neg_mul]
theorem sgI_b (neg : Bool) (N : Nat) (h : N ≤ 9223372036854775807) : -9223372036854775807 ≤ sgI neg N ∧ sgI neg N ≤ 9223372036854775807 := by
  unfold sgI
  cases neg <;> simp <;> omega
theorem negScale_sg (neg : Bool) (A s : Nat) (hA : A ≤ 9223372036854775807) (h0 : 0 < A) (hs : s ≤ 1000) (w : World) : Calls Tryz.prog 115 #[.int .i64 (sgI neg A), .int .i32 (s : Int)] w (IntOk w (sgI neg (negN A s)) (exN A s)) := by
  unfold sgI
  cases neg with
  | false => exact negScale_pos A s hA h0 hs w
  | true => exact negScale_neg A s (by omega) h0 hs w
theorem fac1024_sg (neg : Bool) (M k : Nat) (hM : M % 1024 ≠ 0) (h : M * 1024 ^ k ≤ 9223372036854775807) (w : World) : Calls Tryz.prog 191 #[.int .i64 (sgI neg (M * 1024 ^ k)), .int .i64 1024] w (FacRes w (sgI neg M) k) := by
  unfold sgI
  cases neg with
  | false => exact fac1024_pos M k hM h w
  | true => exact fac1024_neg M k hM h w
theorem b1024_sg (neg : Bool) (M : Nat) (hM : M % 1024 ≠ 0) (k n : Nat) (hk : k ≤ n) (h : M * 1024 ^ k ≤ 9223372036854775807) : b1024 n (sgI neg (M * 1024 ^ k)) = (sgI neg M, k) := by
  unfold sgI
  cases neg with
  | false => exact b1024_pos M hM k n hk h
  | true => exact b1024_neg M hM k n hk h
theorem txtI_sg (neg : Bool) (N : Nat) (hN : N ≠ 0) : txtI (sgI neg N) = txtL neg (dgs N) := by
  unfold sgI
  rw [txtI_num neg N hN]
  exact itoaB_sg neg N hN
theorem cmpV_sg (neg : Bool) (M : Nat) (s c : Int) (k e : Nat) (hE : s + (k : Int) = (e : Int)) : cmpV (sgI neg (M * 10 ^ k)) s c = cmpZ (sgI neg (M * 10 ^ e)) c := by
  rw [sgI_mul, sgI_mul]
  exact cmpV_num _ c s k e hE
theorem CanB.castT {w : World} {t u : ByteArray} {E F : Int} {e : Ending} {w' : World} (h : CanB w t E e w') (h1 : t = u) (h2 : E = F) : CanB w u F e w' := by
  subst h1; subst h2; exact h
theorem pow_split (M : Nat) {k e d : Nat} (h : k = e + d) : M * 10 ^ k = M * 10 ^ e * 10 ^ d := by rw [h, Nat.pow_add, Nat.mul_assoc]
theorem mod_small {neg : Bool} {N : Nat} (h0 : N ≠ 0) (h : N < 1024) : ¬ (sgI neg N).tmod 1024 = 0 := by
  unfold sgI
  cases neg with
  | false =>
    show ¬ (Int.tmod ((N : Nat) : Int) 1024 = 0)
    rw [Int.tmod_eq_emod]
    split <;> omega
  | true =>
    show ¬ (Int.tmod (-((N : Nat) : Int)) 1024 = 0)
    rw [Int.neg_tmod, Int.tmod_eq_emod]
    split <;> omega
theorem asc_bin (neg : Bool) (M k A j e : Nat) (s : Int) (hM0 : M ≠ 0) (hE : s + (k : Int) = (e : Int)) (hs : -60 ≤ s ∧ s ≤ 60) (hn : M * 10 ^ k ≤ 9223372036854775807) (hN : M * 10 ^ e ≤ 9223372036854775807)
    (hA : M * 10 ^ e = A * 1024 ^ j) (hAm : A % 1024 ≠ 0) :
    ∃ v sc, (∀ w, Calls Tryz.prog 149 #[.agg #[.int .i64 (sgI neg (M * 10 ^ k)), .int .i32 s], .int .i32 0] w (AscRes w v sc true)) ∧
      ∀ w, Tab10 w → Calls Tryz.prog 317 #[.agg #[.int .i64 v, .int .i32 sc], .slice none 0 0] w (CanB w (itoaB (sgI neg A)) (j : Int)) := by
  have hAle : A ≤ A * 1024 ^ j := Nat.le_mul_of_pos_right A (Nat.pow_pos (by omega))
  have hAb := sgI_b neg A (by omega)
  have hNb := sgI_b neg (M * 10 ^ e) hN
  have hkb := sgI_b neg (M * 10 ^ k) hn
  have hfac : ∀ w, Calls Tryz.prog 191 #[.int .i64 (sgI neg (M * 10 ^ e)), .int .i64 1024] w (FacRes w (sgI neg A) j) := by
    intro w
    rw [hA]
    exact fac1024_sg neg A j hAm (by omega) w
  rcases Int.lt_or_le s 0 with h | h
  · refine ⟨sgI neg (M * 10 ^ e), ((0 : Nat) : Int), fun w => ?_, fun w ht => ?_⟩
    · obtain ⟨d, hd⟩ : ∃ d : Nat, -s = (d : Int) := ⟨(-s).toNat, by omega⟩
      have hke : k = e + d := by omega
      have hp : 0 < 10 ^ d := Nat.pow_pos (by omega)
      have h1 : negN (M * 10 ^ k) d = M * 10 ^ e := by
        rw [pow_split M hke]
        unfold negN
        rw [if_pos (Nat.mul_mod_left _ _), Nat.mul_div_cancel _ hp]
      have h2 : exN (M * 10 ^ k) d = true := by
        rw [pow_split M hke]
        unfold exN
        rw [decide_eq_true_eq]
        exact Nat.mul_mod_left _ _
      refine AsScale_dn _ s _ true w ⟨by omega, h⟩ (fun w => ?_)
      have := negScale_sg neg (M * 10 ^ k) d hn (Nat.mul_pos (by omega) (Nat.pow_pos (by omega))) (by omega) w
      rw [h1, h2] at this
      rw [hd]
      exact this
    · exact B1024I _ 0 _ _ j w (AsScaled_up _ 0 _ (by omega) hNb _ (by rw [Int.pow_zero, Int.mul_one]) hNb) hfac (by omega) ht
  · obtain ⟨u, rfl⟩ : ∃ u : Nat, s = (u : Int) := ⟨s.toNat, by omega⟩
    refine ⟨sgI neg (M * 10 ^ k), (u : Int), fun w => AsScale_up _ _ w ⟨h, by omega⟩, fun w ht => ?_⟩
    have hP : sgI neg (M * 10 ^ e) = sgI neg (M * 10 ^ k) * 10 ^ u := by
      rw [pow_split M (show e = k + u by omega), sgI_mul, Int.natCast_pow]
      rfl
    exact B1024I _ u _ _ j w (AsScaled_up _ u _ (by omega) hkb _ hP hNb) hfac (by omega) ht
theorem binT_small (neg : Bool) (N : Nat) (h0 : N ≠ 0) (h : N < 1024) : binT (sgI neg N) = txtL neg (dgs N) ++ ⟨#[]⟩ := by
  unfold binT
  rw [b1024_stop (mod_small h0 h)]
  show txtI (sgI neg N) ++ _ = _
  rw [txtI_sg neg N h0]
  rfl
theorem binT_big (neg : Bool) (A j : Nat) (hA : A % 1024 ≠ 0) (hj : j ≤ 6) (h : A * 1024 ^ j ≤ 9223372036854775807) : binT (sgI neg (A * 1024 ^ j)) = itoaB (sgI neg A) ++ binS j := by
  have hA0 : A ≠ 0 := fun e => by rw [e] at hA; exact hA rfl
  unfold binT
  rw [b1024_sg neg A hA j 6 hj h]
  show txtI (sgI neg A) ++ _ = _
  rw [txtI_sg neg A hA0, itoaB_sg neg A hA0]
theorem eF_zero (neg : Bool) (l : List Nat) {E : Int} (h0 : 0 ≤ E) (h : E ≤ 2) : eF ⟨neg, l, E⟩ = 0 := by
  rcases (show E = 0 ∨ E = 1 ∨ E = 2 by omega) with rfl | rfl | rfl <;> rfl
theorem cmp_small {neg : Bool} {N : Nat} (h : N < 1024) : 0 < cmpZ (sgI neg N) (-1024) ∧ cmpZ (sgI neg N) 1024 < 0 := by
  have h1 : -1024 < sgI neg N ∧ sgI neg N < 1024 := by
    unfold sgI
    cases neg <;> simp <;> omega
  rw [cmpZ_gt h1.1, cmpZ_lt h1.2]
  exact ⟨by decide, by decide⟩
theorem cmp_lo {N : Nat} (h : 1024 ≤ N) : ¬ 0 < cmpZ (sgI true N) (-1024) := by
  have h1 : sgI true N ≤ -1024 := by
    show -((N : Nat) : Int) ≤ _
    omega
  unfold cmpZ
  split
  · decide
  · rw [if_neg (by omega)]; decide
theorem cmp_hi {N : Nat} (h : 1024 ≤ N) : 0 < cmpZ (sgI false N) (-1024) ∧ ¬ cmpZ (sgI false N) 1024 < 0 := by
  have h1 : 1024 ≤ sgI false N := by
    show _ ≤ ((N : Nat) : Int)
    omega
  constructor
  · rw [cmpZ_gt (by omega)]; decide
  · unfold cmpZ
    rw [if_neg (by omega)]
    split <;> decide
theorem canon_binary (neg : Bool) (M k : Nat) (s E : Int) (p : Nat) (w : World) (hq : QiAt w p (sgI neg (M * 10 ^ k)) s (fmtB 1)) (hM : M % 10 ≠ 0) (hn : -9223372036854775808 ≤ sgI neg (M * 10 ^ k) ∧ sgI neg (M * 10 ^ k) ≤ 9223372036854775807) (hE : s + (k : Int) = E) (hs : -60 ≤ s ∧ s ≤ 60)
    (h0 : 0 ≤ E) (hmax : M * 10 ^ (E + 3).toNat ≤ 9223372036854775807 * 1000) (hsm : E ≤ 2 ∨ 1024 ≤ M * 10 ^ E.toNat) (ht : Tab10 w) (hleaf : Leaf w) :
    Calls Tryz.prog 39 #[.pointer (some ⟨p, 0, none⟩)] w (StrK w (binT (sgI neg (M * 10 ^ E.toNat)))) := by
  have hM0 : M ≠ 0 := fun h => by rw [h] at hM; exact hM rfl
  have hE18 := exp_hi hM0 (by omega) hmax
  have hN := may_int h0 hmax
  have hN0 : M * 10 ^ E.toNat ≠ 0 := Nat.mul_ne_zero hM0 (Nat.pos_iff_ne_zero.1 (Nat.pow_pos (by omega)))
  have hk0 : M * 10 ^ k ≠ 0 := Nat.mul_ne_zero hM0 (Nat.pos_iff_ne_zero.1 (Nat.pow_pos (by omega)))
  obtain ⟨e, he⟩ : ∃ e : Nat, E = (e : Int) := ⟨E.toNat, by omega⟩
  subst he
  rw [Int.toNat_natCast] at *
  have hn8 : M * 10 ^ k ≤ 9223372036854775808 := by
    revert hn
    unfold sgI
    generalize M * 10 ^ k = N
    cases neg <;> simp <;> omega
  have hn7 : M * 10 ^ k ≤ 9223372036854775807 := by
    rcases Nat.lt_or_ge 9223372036854775807 (M * 10 ^ k) with h | h
    · exfalso
      have h3 : M * 10 ^ k = 9223372036854775808 := by omega
      have hkk : k = 0 := by
        cases k with
        | zero => rfl
        | succ k =>
          exfalso
          rw [Nat.pow_succ, ← Nat.mul_assoc] at h3
          omega
      subst hkk
      have h5 : M ≤ M * 10 ^ e := Nat.le_mul_of_pos_right M (Nat.pow_pos (by omega))
      omega
    · exact h
  have hkk := pow_k hM0 hn8
  have hsb : -39 ≤ s ∧ s ≤ 19 := by
    have h1 : k ≤ 18 := by
      rcases Nat.lt_or_ge 18 k with h | h
      · exfalso
        have h2 : 10 ^ 19 ≤ 10 ^ k := Nat.pow_le_pow_right (by omega) (by omega)
        have h3 : 1 * 10 ^ k ≤ M * 10 ^ k := Nat.mul_le_mul_right _ (by omega)
        have h4 : (10 : Nat) ^ 19 = 10000000000000000000 := by decide
        omega
      · exact h
    omega
  have hn0 : sgI neg (M * 10 ^ k) ≠ 0 := sgI_ne neg hk0
  have hm : ∀ c : Int, c.natAbs ≤ 1000000 → c ≠ 0 → ∀ w', QiAt w' p (sgI neg (M * 10 ^ k)) s (fmtB 1) → Calls Tryz.prog 112 #[.pointer (some ⟨p, 0, none⟩), .int .i64 c] w' (CmpRes w' (cmpZ (sgI neg (M * 10 ^ e)) c)) := by
    intro c hc hc0 w' hq'
    rw [← cmpV_sg neg M s c k e hE]
    exact CmpI p _ s c _ w' hq' hn hc hc0 hsb
  by_cases hb : M * 10 ^ e < 1024
  · have hE2 : (e : Int) ≤ 2 := by
      rcases hsm with h | h
      · exact h
      · omega
    have hF := eF_zero neg (dgs M) h0 hE2
    obtain ⟨g1, g2⟩ := cmp_small (neg := neg) hb
    rw [binT_small neg _ hN0 hb]
    have hsz : (txtL neg (dgs (M * 10 ^ e))).size ≤ 1000 := by
      rw [← txtD_num neg M e hM0]
      refine txtD_small neg M e hM0 (Nat.lt_trans hb ?_)
      decide
    refine canonicalI p _ _ w hsz (by decide) ?_
    refine CanonI_bin_small p _ s 0 _ _ _ _ w hq hn0 (fun w' hk => ?_) (fun dd w' hsf => con_dec 0 (by omega) dd w' hsf) (hm (-1024) (by decide) (by decide)) (hm 1024 (by decide) (by decide)) g1 g2
    refine (can114 neg M k s (e : Int) (fmtB 1) p w hq hM hn hE hs (by omega) hmax ht hleaf w' hk).mono (fun en w'' h => h.castT ?_ hF)
    rw [hF, Int.sub_zero, txtD_num neg M e hM0]
  · obtain ⟨A, j, hA, hAm⟩ := prim1024 (M * 10 ^ e) hN0
    have hA0 : A ≠ 0 := fun h => by rw [h] at hAm; exact hAm rfl
    have hj : j ≤ 6 := k1024_le hA0 (by omega)
    obtain ⟨v, sc, hasc, hcan⟩ := asc_bin neg M k A j e s hM0 hE hs hn7 hN hA hAm
    have hX : wrap32 ((j : Int) * 10) = (j : Int) * 10 := by unfold wrap32; omega
    have hAle : A ≤ A * 1024 ^ j := Nat.le_mul_of_pos_right A (Nat.pow_pos (by omega))
    have hsz : (itoaB (sgI neg A)).size ≤ 1000 := by
      rw [itoaB_sg neg A hA0]
      have h1 := txtL_size neg (dgs A)
      have h2 := (dgs_le 40 A (Nat.lt_of_le_of_lt (show A ≤ 9223372036854775807 by omega) (by decide))).1
      omega
    have hsz2 := binS_size j
    have e0 : binT (sgI neg (M * 10 ^ e)) = itoaB (sgI neg A) ++ binS j := by
      rw [hA]
      exact binT_big neg A j hAm hj (by omega)
    rw [e0]
    refine canonicalI p _ _ w hsz (by omega) ?_
    cases neg with
    | true =>
      exact CanonI_bin_ex_lo p _ s (j : Int) _ _ v sc _ _ _ w hq hn0 (fun w' hk => hcan w' (ht.old hk)) hX (fun dd w' hsf => construct_k j hj dd w' hsf) (hm (-1024) (by decide) (by decide)) (hm 1024 (by decide) (by decide))
        (fun w' hq' => AsScaleI p _ s v sc true _ w' hq' (hasc w')) (cmp_lo (by omega))
    | false =>
      exact CanonI_bin_ex_hi p _ s (j : Int) _ _ v sc _ _ _ w hq hn0 (fun w' hk => hcan w' (ht.old hk)) hX (fun dd w' hsf => construct_k j hj dd w' hsf) (hm (-1024) (by decide) (by decide)) (hm 1024 (by decide) (by decide))
        (fun w' hq' => AsScaleI p _ s v sc true _ w' hq' (hasc w')) (cmp_hi (by omega)).1 (cmp_hi (by omega)).2
end Go.Proofs.YtjebnpkebccffaaGreatDoor
namespace Go.Proofs.YtjebnpkebccffaaGreatDoor
open Go.RowKit
theorem new_nd {n s : Int} (h : n ≠ 0) : ∃ (neg : Bool) (M k : Nat), n = sgI neg (M * 10 ^ k) ∧ M % 10 ≠ 0 ∧ decL (decide (n < 0)) (dgs n.natAbs) s = ⟨neg, dgs M, s + (k : Int)⟩ := by
  obtain ⟨M, k, e, hM⟩ := prim n.natAbs (by omega)
  refine ⟨decide (n < 0), M, k, ?_, hM, ?_⟩
  · rw [← e]
    unfold sgI
    by_cases h0 : n < 0
    · rw [if_pos (decT h0)]; omega
    · rw [if_neg (by rw [decF h0]; decide)]; omega
  · have hn := nd_pow (decide (n < 0)) M k s
    unfold nd at hn
    have hp := nd_prim (decide (n < 0)) M (s + (k : Int)) hM
    unfold nd at hp
    rw [e, hn, hp]
theorem new_can (n s f : Int) (t : ByteArray) (w : World) (hn : -9223372036854775808 ≤ n ∧ n ≤ 9223372036854775807) (hs : -60 ≤ s ∧ s ≤ 60) (hf : f = 0 ∨ f = 1 ∨ f = 2)
    (hok : CanOk (decL (decide (n < 0)) (dgs n.natAbs) s) f t) (ht : Tab10 w) (hleaf : Leaf w) : Calls Tryz.prog 15 #[.int .i64 n, .int .i64 s, .int .i64 f] w (StrK w t) := by
  refine QuantityNew_of n s f t w hf (by omega) (fun w' p hq hk => ?_)
  have ht' : Tab10 w' := ht.old hk
  have hleaf' : Leaf w' := hleaf.kept hk (fun f => f)
  by_cases h0 : n = 0
  · subst h0
    have hz : (decL (decide ((0 : Int) < 0)) (dgs (0 : Int).natAbs) s).ds = [] := by
      have := nd_zero (decide ((0 : Int) < 0)) s
      unfold nd at this
      rw [show (0 : Int).natAbs = 0 from rfl, this]
    have e0 : t = ⟨#[48]⟩ ++ ⟨#[]⟩ := by
      cases hok with
      | zero _ _ h => rw [h]; rfl
      | bin _ h _ _ _ _ _ => exact absurd hz h
      | dec _ h _ _ _ _ => exact absurd hz h
    rw [e0]
    exact canonicalI p _ _ w' (by decide) (by decide) (CanonI_zero p s _ w' hq)
  · obtain ⟨neg, M, k, rfl, hM, hd⟩ := new_nd (s := s) h0
    have hM0 : M ≠ 0 := fun h => by rw [h] at hM; exact hM rfl
    rw [hd] at hok
    cases hok with
    | zero _ h _ => exact absurd h (dgs_ne hM0)
    | bin hm _ hf1 he hc hi h =>
      subst hf1
      obtain ⟨h3, hmax⟩ := may_num hM0 hm
      have he0 : 0 ≤ s + (k : Int) := he
      have hi' := intD_num hM0 he0 (may_int he0 hmax) hi
      have e1 : t = binT (sgI neg (M * 10 ^ (s + (k : Int)).toNat)) := by
        rw [h, hi']
        rfl
      rw [e1]
      refine canon_binary neg M k s _ p w' hq hM hn rfl hs he0 hmax ?_ ht' hleaf'
      rcases hc with hc | hc
      · exact Or.inl hc
      · exact Or.inr (cmp1024_num hM0 he0 hc)
    | dec hm _ hf1 _ _ h =>
      obtain ⟨h3, hmax⟩ := may_num hM0 hm
      rw [h]
      exact canon_decimal neg M k s _ f (by omega) p w' hq hM hn rfl hs h3 hmax ht' hleaf'
end Go.Proofs.YtjebnpkebccffaaGreatDoor
namespace Go.Proofs.YtjebnpkebccffaaGreatDoor
open Go.RowKit
def Globs (w : World) : Prop := (∃ a b c, Errs w a b c) ∧ (∃ a, Eof w a) ∧ Leaf w ∧ ∃ tp pe, w.cell? ⟨8, 0, none⟩ = some (.iface tp pe)
theorem Globs.kept {w w' : World} (h : Globs w) (hk : Kept (fun _ => False) w w') : Globs w' := by
  obtain ⟨⟨a, b, c, h1⟩, ⟨e, h2⟩, h3, tp, pe, h4⟩ := h
  exact ⟨⟨a, b, c, h1.kept hk⟩, ⟨e, h2.kept hk (fun f => f)⟩, cell_same hk h3, tp, pe, cell_same hk h4⟩
theorem Globs.awake {w : World} (h : Globs w) : Calls Tryz.prog 12 #[] w fun e w' => e = .returned (.bool true) ∧ Kept (fun _ => False) w w' := by
  obtain ⟨⟨a, b, c, h1⟩, ⟨e, h2⟩, h3, _⟩ := h
  exact YtjebnpkebccffaaGreatDoor.awake w _ e h1.g0 h2 h3
def LawRes (w : World) (e : Ending) (w' : World) : Prop := e = .returned (.bool true) ∧ Kept (fun _ => False) w w'
end Go.Proofs.YtjebnpkebccffaaGreatDoor
namespace Go.Proofs.YtjebnpkebccffaaGreatDoor
open Go.RowKit
theorem decL_bb {neg : Bool} {u : Nat} {s : Int} (hu : u ≤ 9223372036854775808) (hs : -60 ≤ s ∧ s ≤ 60) : (decL neg (dgs u) s).ds.length ≤ 1000 ∧ (∀ x ∈ (decL neg (dgs u) s).ds, x ≤ 9) ∧ (-1000 ≤ (decL neg (dgs u) s).e ∧ (decL neg (dgs u) s).e ≤ 1000) := by
  obtain ⟨a, b⟩ := dgs_le 20 u (Nat.lt_of_le_of_lt hu (by decide))
  obtain ⟨h1, h2, h3, h4⟩ := decL_b (neg := neg) (e := s) (K := 60) b a (by omega) (by omega)
  exact ⟨by omega, h1, by omega, by omega⟩
set_option maxRecDepth 100000 in
set_option maxHeartbeats 4000000 in
theorem new_any (n s f : Int) (w : World) (hn : -9223372036854775808 ≤ n ∧ n ≤ 9223372036854775807) (hg : Globs w) (ht : Tab10 w) : Calls Tryz.prog 4 #[.int .i64 n, .int .i64 s, .int .i64 f] w (LawRes w) := by
  by_cases h1 : s < -60
  · have q1 : decide (s < -60) = true := decT h1
    clear hn hg ht h1
    go_enter Tryz.func4, Tryz.ntmps4
    go_wp2_with fail
    go_ret
    exact ⟨rfl, Kept.refl _ _⟩
  have q1 : decide (s < -60) = false := decF h1
  by_cases h2 : 60 < s
  · have q2 : decide (60 < s) = true := decT h2
    clear hn hg ht h1 h2
    go_enter Tryz.func4, Tryz.ntmps4
    go_wp2_with fail
    go_ret
    exact ⟨rfl, Kept.refl _ _⟩
  have q2 : decide (60 < s) = false := decF h2
  by_cases h3 : f < 0
  · have q3 : decide (f < 0) = true := decT h3
    clear hn hg ht h1 h2 h3
    go_enter Tryz.func4, Tryz.ntmps4
    go_wp2_with fail
    go_ret
    exact ⟨rfl, Kept.refl _ _⟩
  have q3 : decide (f < 0) = false := decF h3
  by_cases h4 : 2 < f
  · have q4 : decide (2 < f) = true := decT h4
    clear hn hg ht h1 h2 h3 h4
    go_enter Tryz.func4, Tryz.ntmps4
    go_wp2_with fail
    go_ret
    exact ⟨rfl, Kept.refl _ _⟩
  have q4 : decide (2 < f) = false := decF h4
  have hs : -60 ≤ s ∧ s ≤ 60 := by omega
  have hf : f = 0 ∨ f = 1 ∨ f = 2 := by omega
  have hb := decL_bb (neg := decide (n < 0)) (u := n.natAbs) (s := s) (by omega) hs
  have HD := Lib.hid (fun w => DecimalOf_any n s w hn (by omega))
  have HC : Hid (∀ v w, DmAt w v (decL (decide (n < 0)) (dgs n.natAbs) s) → Calls Tryz.prog 13 #[v, .int .i64 f] w (CanRes w (decL (decide (n < 0)) (dgs n.natAbs) s) f)) := fun v w h => QuantityCanonical_any v _ f w h hb.1 hb.2.1 hb.2.2
  have HN : Hid (∀ t w, CanOk (decL (decide (n < 0)) (dgs n.natAbs) s) f t → Tab10 w → Leaf w → Calls Tryz.prog 15 #[.int .i64 n, .int .i64 s, .int .i64 f] w (StrK w t)) := fun t w hok ht hl => new_can n s f t w hn hs hf hok ht hl
  have HG := Lib.hid hg
  have HT := Lib.hid ht
  generalize decL (decide (n < 0)) (dgs n.natAbs) s = d at *
  clear hn hg ht h1 h2 h3 h4 hs hf hb
  go_enter Tryz.func4, Tryz.ntmps4
  go_wp2_with fail
  refine (HD.out _).mono ?_
  rintro e w1 ⟨v, rfl, hv, hk1⟩
  have HCC := Lib.hid (HC.out v w1 hv)
  have K1 := Lib.hid hk1
  clear hv hk1
  go_wp2_with fail
  refine HCC.out.mono ?_
  rintro e w2 ⟨⟨t, k, rfl, hp⟩, hk2⟩
  have K2 := Lib.hid (K1.out.same hk2)
  have HP := Lib.hid hp
  clear hk2 hp
  cases k
  · go_wp2_with fail
    refine ((HG.out.kept K2.out).awake).mono ?_
    rintro e w3 ⟨rfl, hk3⟩
    have K3 := Lib.hid (K2.out.same hk3)
    clear hk3
    go_wp2_with fail
    go_ret
    exact ⟨rfl, K3.out⟩
  · have HNN := Lib.hid (HN.out t w2 (HP.out rfl) (HT.out.old K2.out) (HG.out.kept K2.out).2.2.1)
    go_wp2_with fail
    refine HNN.out.mono ?_
    rintro e w3 ⟨rfl, hk3⟩
    have K3 := Lib.hid (K2.out.same hk3)
    clear hk3
    go_wp2_with fail
    refine ((HG.out.kept K3.out).awake).mono ?_
    rintro e w4 ⟨rfl, hk4⟩
    have K4 := Lib.hid (K3.out.same hk4)
    clear hk4
    go_wp2_with fail
    go_ret
    exact ⟨rfl, K4.out⟩
end Go.Proofs.YtjebnpkebccffaaGreatDoor
