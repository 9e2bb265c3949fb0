import Derived.Test.YtjebnpkebccffaaGreatDoorKDec
import Derived.Test.YtjebnpkebccffaaGreatDoorKLsh
import Derived.Test.YtjebnpkebccffaaGreatDoorKAmt
import Derived.Test.YtjebnpkebccffaaGreatDoorKDece
set_option linter.unusedSimpArgs false
set_option linter.unusedVariables false
set_option linter.unusedSectionVars false
namespace Go.Proofs.YtjebnpkebccffaaGreatDoor
open Go.RowKit
theorem dig_word {n : Nat} (h : n < B64) : (dig n).length ≤ 50000 := by
  by_cases h0 : n = 0
  · subst h0
    rw [show dig 0 = [] by unfold dig; simp]
    simp
  · rw [dig_one h0 h]; simp
theorem pow10_sm {k : Nat} (h : k < 40) : Sm (10 ^ k) := by
  refine Sm.of 3 ?_ (by omega)
  exact Nat.lt_of_le_of_lt (Nat.pow_le_pow_right (by omega) (show k ≤ 39 by omega)) (by unfold B64; decide)
theorem mul_sm {a k : Nat} (ha : a < B64) (h : k < 40) : Sm (a * 10 ^ k) := by
  refine Sm.of 4 ?_ (by omega)
  have h1 : 10 ^ k ≤ 10 ^ 39 := Nat.pow_le_pow_right (by omega) (show k ≤ 39 by omega)
  have h2 : (10 : Nat) ^ 39 < B64 ^ 3 := by unfold B64; decide
  have h3 : a * 10 ^ k < B64 * B64 ^ 3 := Nat.mul_lt_mul'' ha (by omega)
  have h4 : B64 ^ 4 = B64 * B64 ^ 3 := by rw [Nat.pow_succ, Nat.mul_comm]
  rw [h4]
  exact h3
theorem Int_Mul_wordl (z x y : Nat) (nz n m : Int) (bz bx by_ : Option Nat) (rz rx ry : List Value) (Tz Tx Ty : TypeId) (w : World) (hz : IntAt w z nz bz rz Tz) (hx : IntAt w x n bx rx Tx) (hy : IntAt w y m by_ ry Ty)
    (hxy : x ≠ y) (hzx : z = x ∨ (z ≠ x ∧ bz ≠ some x)) (hzy : z ≠ y) (hby : bz ≠ some y) (hn0 : n ≠ 0) (hn : n.natAbs < B64) (hm : Sm m.natAbs) :
    Calls Tryz.prog 62 #[.pointer (some ⟨z, 0, none⟩), .pointer (some ⟨x, 0, none⟩), .pointer (some ⟨y, 0, none⟩)] w (IntRes w z bz (n * m) rz Tz) :=
  Int_Mul_of z x y bz (n * m) rz Tz w (Int_mul_of none z x y nz n m bz bx by_ rz rx ry Tz Tx Ty w hz hx hy hxy hzx hzy hby
    (fun W vz vx vy h1 h2 h3 => mul_word_left none vz vx vy bz bx by_ n.natAbs m.natAbs W h1.buf h2 h3 (by omega) hn hm))
set_option maxHeartbeats 1000000 in
theorem Dec_rescale_wide (p k M : Nat) (hM : 10 ^ k = M) (n sc sc' : Int) (b : Option Nat) (w : World) (hp : DecAt w p n sc b) (hk1 : 1 ≤ k) (hk : k < 40) (hsc : sc' - sc = (k : Int)) (hb1 : -2000000000 ≤ sc) (hb2 : sc' ≤ 2000000000) (hn : n.natAbs < B64) (hn0 : n ≠ 0) :
    Calls Tryz.prog 146 #[.pointer (some ⟨p, 0, none⟩), .int .i32 sc'] w (NewD w (n * (M : Int)) sc') := by
  have hM0 : M ≠ 0 := by have := Nat.pow_pos (n := k) (show 0 < 10 by omega); omega
  have hMw : Sm M := by rw [← hM]; exact pow10_sm hk
  have hMm : Sm (n.natAbs * M) := by rw [← hM]; exact mul_sm hn hk
  have HM := Lib.hid hM
  clear hM
  have HP := Lib.hid hp
  have HN := Lib.hid hn
  have e1 : IntKind.i32.wrap (sc' - sc) = (k : Int) := by rw [hsc, IntKind.wrap_i32]; omega
  have g1 : decide ((k : Int) < 0) = false := decF (by omega)
  have g2 : decide ((0 : Int) < (k : Int)) = true := decT (by omega)
  clear hp hn
  go_enter Tryz.func146, Tryz.ntmps146
  go_wp2_with fail
  refine (Dec_Scale p n sc b w HP.out).mono ?_
  rintro e w1 ⟨rfl, rfl⟩
  rw [hsc] at e1
  go_wp2_with fail
  refine (exp10_any k hk1 (by omega) _).mono ?_
  rintro e w2 ⟨y, by_, rfl, hy, ay, ky, qy⟩
  rw [HM.out] at ay
  have AY := Lib.hid ay
  have KY := Lib.hid ky
  have hpy : p < w.heap.size := HP.out.lt
  have HPY : Hid (p ≠ y) := by intro e; omega
  have HP2 := Lib.hid (HP.out.old ky)
  clear ay ky qy hy
  go_wp2_with fail
  refine (Dec_UnscaledBig p n sc b (w2.alloc zInt) (HP2.out.old ((Kept.refl _ _).alloc _))).mono ?_
  rintro e w3 ⟨rfl, rfl⟩
  go_wp2_with fail
  have hz := zInt_at w2
  have hyl := AY.out.lt
  refine (Int_Mul_wordl w2.heap.size p y 0 n (M : Int) none b by_ [] _ [] 109 112 109 (w2.alloc zInt) hz (HP2.out.old ((Kept.refl _ _).alloc _)) (AY.out.old ((Kept.refl _ _).alloc _)) HPY.out (Or.inr ⟨by have := HP2.out.lt; omega, by simp⟩) (by omega) (by simp) hn0 HN.out (by rw [Int.natAbs_natCast]; exact hMw)).mono ?_
  rintro e w4 h
  have hnew := new_of (w1 := w2.alloc zInt) (Nat.le_refl _) (KY.out.trans ((Kept.refl (fun _ => False) w2).alloc zInt) (fun _ _ f => f) (fun _ _ f => f)) KY.out.size h
  obtain ⟨z, bz, rfl, hz1, az, kz, qz⟩ := hnew
  have AZ := Lib.hid az
  have KZ := Lib.hid kz
  clear h hz az kz qz hz1
  go_wp2_with fail
  refine (NewDecBig_any z (n * (M : Int)) sc' bz [] 109 w4 AZ.out ?_).mono ?_
  · rw [Int.natAbs_mul, Int.natAbs_natCast]
    exact hMm
  rintro e w5 ⟨q, bq, rfl, hq, aq, kq, qq⟩
  have HF : Hid (NewD w (n * (M : Int)) sc' (.returned (.pointer (some ⟨q, 0, none⟩))) w5) := ⟨q, bq, rfl, by have := KZ.out.size; omega, aq, KZ.out.trans kq (fun _ _ f => f) (fun _ _ f => f), fun k hk => by have := KZ.out.size; have := qq k hk; omega⟩
  clear aq kq qq hq
  go_wp2_with fail
  go_ret
  exact HF.out
set_option maxHeartbeats 1000000 in
theorem upscale_gtw (p q k M : Nat) (hM : 10 ^ k = M) (n m sc sd : Int) (b c : Option Nat) (w : World) (hp : DecAt w p n sc b) (hq : DecAt w q m sd c) (hk1 : 1 ≤ k) (hk : k < 40) (hsc : sc - sd = (k : Int)) (hb1 : -2000000000 ≤ sd) (hb2 : sc ≤ 2000000000) (hn : m.natAbs < B64) (hn0 : m ≠ 0) :
    Calls Tryz.prog 108 #[.pointer (some ⟨p, 0, none⟩), .pointer (some ⟨q, 0, none⟩)] w fun e w' => ∃ r, e = .returned (.tuple #[.pointer (some ⟨p, 0, none⟩), .pointer (some ⟨r, 0, none⟩)]) ∧ NewD w (m * (M : Int)) sc (.returned (.pointer (some ⟨r, 0, none⟩))) w' := by
  have HP := Lib.hid hp
  have HQ := Lib.hid hq
  have HR := Lib.hid (Dec_rescale_wide q k M hM m sd sc c w hq hk1 hk hsc hb1 hb2 hn hn0)
  have g1 : (sc == sd) = false := beqF (by omega)
  have g2 : decide (sd < sc) = true := decT (by omega)
  clear hp hq hM
  go_enter Tryz.func108, Tryz.ntmps108
  go_wp2_with fail
  refine (Dec_Scale p n sc b w HP.out).mono ?_
  rintro e w1 ⟨rfl, rfl⟩
  go_wp2_with fail
  refine (Dec_Scale q m sd c w HQ.out).mono ?_
  rintro e w1 ⟨rfl, rfl⟩
  go_wp2_with fail
  refine (Dec_Scale p n sc b w HP.out).mono ?_
  rintro e w1 ⟨rfl, rfl⟩
  go_wp2_with fail
  refine (Dec_Scale q m sd c w HQ.out).mono ?_
  rintro e w1 ⟨rfl, rfl⟩
  go_wp2_with fail
  refine (Dec_Scale p n sc b w HP.out).mono ?_
  rintro e w1 ⟨rfl, rfl⟩
  go_wp2_with fail
  refine HR.out.mono ?_
  intro e w2 h
  have h' := h
  obtain ⟨r, br, rfl, _⟩ := h'
  have H := Lib.hid h
  clear h
  go_wp2_with fail
  go_ret2
  exact ⟨r, rfl, H.out⟩
set_option maxHeartbeats 1000000 in
theorem Dec_Cmp_gtw (p q k M : Nat) (hM : 10 ^ k = M) (n m sc sd : Int) (b c : Option Nat) (w : World) (hp : DecAt w p n sc b) (hq : DecAt w q m sd c) (hk1 : 1 ≤ k) (hk : k < 40) (hsc : sc - sd = (k : Int)) (hb1 : -2000000000 ≤ sd) (hb2 : sc ≤ 2000000000) (hn : m.natAbs < B64) (hn0 : m ≠ 0) :
    Calls Tryz.prog 68 #[.pointer (some ⟨p, 0, none⟩), .pointer (some ⟨q, 0, none⟩)] w (CmpRes w (cmpZ n (m * (M : Int)))) := by
  refine Dec_Cmp_of p q n _ w ((upscale_gtw p q k M hM n m sc sd b c w hp hq hk1 hk hsc hb1 hb2 hn hn0).mono ?_)
  rintro e w1 ⟨r, rfl, r', br, he, hr, ar, kr, qr⟩
  injection he with he
  injection he with he
  injection he with he
  injection he with he
  subst he
  exact ⟨p, r, b, br, sc, rfl, by have := IntAt.lt hp; omega, IntAt.old hp kr, ar, kr⟩
end Go.Proofs.YtjebnpkebccffaaGreatDoor
namespace Go.Proofs.YtjebnpkebccffaaGreatDoor
open Go.RowKit
set_option maxHeartbeats 1000000 in
theorem Int_SetInt64_min (z k : Nat) (nz : Int) (bz : Option Nat) (rz : List Value) (Tz : TypeId) (w : World) (hz : IntAt w z nz bz rz Tz) (h0 : k = 9223372036854775808) :
    Calls Tryz.prog 102 #[.pointer (some ⟨z, 0, none⟩), .int .i64 (-(k : Int))] w (IntRes w z bz (-(k : Int)) rz Tz) := by
  obtain ⟨vz, hz1, hz2, hz3⟩ := hz
  obtain ⟨cz0, cz1, fz0, fz1⟩ := int_cells hz1
  have HZ1 := Lib.hid hz1
  have HZ2 := Lib.hid hz2
  have a1 : decide (-(k : Int) < 0) = true := decT (by omega)
  have e0 : IntKind.i64.wrap (k : Int) = -(k : Int) := by rw [IntKind.wrap_i64]; omega
  have e1 : IntKind.u64.wrap (-(k : Int)) = (k : Int) := by rw [IntKind.wrap_u64]; omega
  have h0p : 0 < k := by omega
  have a2 : k < B64 := by rw [h0]; unfold B64; decide
  have HA2 := Lib.hid a2
  clear hz1 hz2 h0 a2
  go_enter Tryz.func102, Tryz.ntmps102
  go_wp2_with fail
  refine (setUint64_any vz bz k HA2.out _ HZ2.out.buf).mono ?_
  rintro e w1 ⟨v', b', rfl, h⟩
  obtain ⟨a', c', rfl⟩ := nat_slice h.1
  have ez := h.2.1.at HZ1.out hz3
  obtain ⟨d0, d1, d2, d3⟩ := int_cells ez
  have H := Lib.hid h
  clear h ez cz0 cz1 fz0 fz1
  go_wp2_with fail
  go_ret
  have := int_fin (n := -(k : Int)) HZ1.out hz3 (by rw [Int.natAbs_neg, Int.natAbs_natCast]; exact H.out.1) H.out.2.1 H.out.2.2
  rw [a1] at this
  exact this
set_option maxHeartbeats 1000000 in
theorem Dec_SetUnscaled_all (p : Nat) (n m sc : Int) (b : Option Nat) (w : World) (h : DecAt w p n sc b) (hm : -9223372036854775808 ≤ m ∧ m ≤ 9223372036854775807) : Calls Tryz.prog 109 #[.pointer (some ⟨p, 0, none⟩), .int .i64 m] w (DecRes w p b m sc) := by
  obtain ⟨v, h1, h2⟩ := h
  obtain ⟨c0, c1, _, _⟩ := int_cells h1
  have HC : Hid (Calls Tryz.prog 102 #[.pointer (some ⟨p, 0, none⟩), .int .i64 m] w (IntRes w p b m [.int .i32 sc] 112)) := by
    by_cases hmin : m = -9223372036854775808
    · subst hmin
      obtain ⟨K, hK⟩ : ∃ K : Nat, K = 9223372036854775808 := ⟨_, rfl⟩
      have hm2 : (-9223372036854775808 : Int) = -(K : Int) := by omega
      rw [hm2]
      exact Int_SetInt64_min p K n b _ 112 w ⟨v, h1, h2⟩ hK
    by_cases hlt : m < 0
    · obtain ⟨k, rfl⟩ : ∃ k : Nat, m = -(k : Int) := ⟨m.natAbs, by omega⟩
      exact Int_SetInt64_neg p k n b _ 112 w ⟨v, h1, h2⟩ (by omega) (by omega)
    · obtain ⟨k, rfl⟩ : ∃ k : Nat, m = (k : Int) := ⟨m.natAbs, by omega⟩
      exact Int_SetInt64_pos p k n b _ 112 w ⟨v, h1, h2⟩ (by omega)
  clear h1 h2
  go_enter Tryz.func109, Tryz.ntmps109
  go_wp2_with fail
  refine HC.out.mono ?_
  rintro e w1 ⟨rfl, h⟩
  have H := Lib.hid h
  clear h
  go_wp2_with fail
  go_ret
  exact ⟨rfl, H.out⟩
set_option maxHeartbeats 1000000 in
theorem AsDec_any (n s : Int) (w : World) (hn : -9223372036854775808 ≤ n ∧ n ≤ 9223372036854775807) (hs : -1000 ≤ s ∧ s ≤ 1000) : Calls Tryz.prog 121 #[.agg #[.int .i64 n, .int .i32 s]] w (NewD w n (-s)) := by
  have e1 : IntKind.i32.wrap (-s) = -s := by rw [IntKind.wrap_i32]; omega
  have e2 : wrap32 (-s) = -s := by unfold wrap32; omega
  have hb := heap_alloc_new w (.cells #[.int .i64 n, .int .i32 s] 60)
  have k0 : Kept (fun _ => False) w ((w.alloc (.cells #[.int .i64 n, .int .i32 s] 60)).alloc zDec) := ((Kept.refl _ _).alloc _).alloc _
  have hb2 : ((w.alloc (.cells #[.int .i64 n, .int .i32 s] 60)).alloc zDec).heap[w.heap.size]? = some (.cells #[.int .i64 n, .int .i32 s] 60 (0, 0)) := by
    rw [Below.heap_alloc _ _ _ (by simp)]; exact hb
  have c0 : ((w.alloc (.cells #[.int .i64 n, .int .i32 s] 60)).alloc zDec).cell? ⟨w.heap.size, 0, none⟩ = some (.int .i64 n) := by rw [cell_of hb2]; rfl
  have c1 : ((w.alloc (.cells #[.int .i64 n, .int .i32 s] 60)).alloc zDec).cell? ⟨w.heap.size, 1, none⟩ = some (.int .i32 s) := by rw [cell_of hb2]; rfl
  have hz := zDec_at (w.alloc (.cells #[.int .i64 n, .int .i32 s] 60))
  have ez : (w.alloc (.cells #[.int .i64 n, .int .i32 s] 60)).heap.size = w.heap.size + 1 := by simp
  rw [ez] at hz
  have HU := Lib.hid (Dec_SetUnscaled_all (w.heap.size + 1) 0 n 0 none _ hz hn)
  have HB2 := Lib.hid hb2
  have K0 := Lib.hid k0
  clear hb hz k0 hb2 ez
  unfold zDec at *
  go_enter Tryz.func121, Tryz.ntmps121
  go_wp2_with fail
  refine HU.out.mono ?_
  rintro e w1 ⟨rfl, b', h1, h2, h3⟩
  have H1 := Lib.hid h1
  have H2 := Lib.hid h2
  have H3 := Lib.hid h3
  have c1' : w1.cell? ⟨w.heap.size, 1, none⟩ = some (.int .i32 s) := by
    rw [cell_of (h2.at HB2.out (by
      intro f
      rcases f with f | f
      · omega
      · cases f))]; rfl
  clear h1 h2 h3
  go_wp2_with fail
  refine (Dec_SetScale (w.heap.size + 1) n 0 (-s) b' w1 H1.out).mono ?_
  rintro e w2 ⟨rfl, h4, h5⟩
  have HF : Hid (NewD w n (-s) (.returned (.pointer (some ⟨w.heap.size + 1, 0, none⟩))) w2) := by
    refine ⟨w.heap.size + 1, b', rfl, by omega, h4, (K0.out.trans H2.out (fun _ _ f => f) (fun i hi f => ?_)).trans h5 (fun _ _ f => f) (fun i hi f => by omega), ?_⟩
    · rcases f with f | f
      · omega
      · cases f
    · intro k hk
      rcases H3.out with h | ⟨j, hj, hjs⟩
      · rw [h] at hk; cases hk
      · rw [hj] at hk; injection hk with hk; simp at hjs; omega
  clear h4 h5
  go_wp2_with fail
  go_ret
  exact HF.out
end Go.Proofs.YtjebnpkebccffaaGreatDoor
namespace Go.Proofs.YtjebnpkebccffaaGreatDoor
open Go.RowKit
set_option maxHeartbeats 1000000 in
theorem fac10_min (X : Int) (hX : X = -9223372036854775808) (w : World) : Calls Tryz.prog 191 #[.int .i64 X, .int .i64 10] w (FacRes w X 0) := by
  have g1 : decide (X < 0) = true := decT (by omega)
  have g2 : IntKind.i64.wrap (-X) = X := by rw [IntKind.wrap_i64]; omega
  have g3 : wrap64 (-X) = X := by unfold wrap64; omega
  have g4 : decide (10 ≤ X) = false := decF (by omega)
  clear hX
  go_enter Tryz.func191, Tryz.ntmps191
  go_wp2_with fail
  go_loop [4, 5] (fun v4 v5 => v4 = .int .i64 X ∧ v5 = .int .i32 0) (fun _ _ => 0)
  case atStart => exact ⟨rfl, rfl⟩
  case round =>
    obtain ⟨rfl, rfl⟩ := hrel
    go_wp2_with fail
    go_ret2
    exact ⟨rfl, rfl⟩
set_option maxHeartbeats 4000000 in
theorem amtCanon_over1 (n m s E E' : Int) (k : Nat) (T : ByteArray) (w : World) (hfac : ∀ w, Calls Tryz.prog 191 #[.int .i64 n, .int .i64 10] w (FacRes w m k)) (hE : s + (k : Int) = E) (hs : -100 ≤ s ∧ s ≤ 100) (hEr : E = -2)
    (hm : -9223372036854775808 ≤ m ∧ m ≤ 9223372036854775807) (hov : ¬ (-9223372036854775807 ≤ m * 10 ∧ m * 10 ≤ 9223372036854775807)) (hn : -9223372036854775808 ≤ n ∧ n ≤ 9223372036854775807)
    (hbig : ∀ w' p b, DecAt w' p n (-s) b → Kept (fun _ => False) w w' → Calls Tryz.prog 150 #[.agg #[.pointer (some ⟨p, 0, none⟩)], .slice none 0 0] w' (CanB w' T E')) :
    Calls Tryz.prog 151 #[.agg #[.int .i64 n, .int .i32 s], .slice none 0 0] w (CanB w T E') := by
  have k0 : Kept (fun _ => False) w (w.alloc (.cells #[.int .i64 n, .int .i32 s] 60)) := (Kept.refl _ _).alloc _
  have hb := heap_alloc_new w (.cells #[.int .i64 n, .int .i32 s] 60)
  have HF := Lib.hid hfac
  have K0 := Lib.hid k0
  have HB := Lib.hid hb
  generalize hW : w.alloc (.cells #[.int .i64 n, .int .i32 s] 60) = W at *
  have c0 : W.cell? ⟨w.heap.size, 0, none⟩ = some (.int .i64 n) := by rw [cell_of hb]; rfl
  have c1 : W.cell? ⟨w.heap.size, 1, none⟩ = some (.int .i32 s) := by rw [cell_of hb]; rfl
  have e1 : IntKind.i32.wrap (s + (k : Int)) = E := by rw [hE, IntKind.wrap_i32]; omega
  have e2 : wrap32 (s + (k : Int)) = E := by rw [← i32_wrap]; exact e1
  have HM := Lib.hid (fun w => mul10_any m w hm.1 hm.2)
  have HOV := Lib.hid hov
  have HN := Lib.hid hn
  have HS := Lib.hid hs
  have HBIG := Lib.hid hbig
  clear hm hov hn hfac hb k0 hE hs hbig
  subst hEr
  go_enter Tryz.func151, Tryz.ntmps151
  go_wp2_with fail
  refine (HF.out _).mono ?_
  rintro e w1 ⟨rfl, rfl⟩
  go_wp2_with fail
  refine (HM.out _).mono ?_
  rintro e w1 ⟨⟨c, kk, rfl, -, h3⟩, hk1⟩
  obtain rfl := h3 HOV.out
  have K1 := Lib.hid (K0.out.same hk1)
  have hb1 := hk1.at HB.out (fun f => f)
  have d0 : w1.cell? ⟨w.heap.size, 0, none⟩ = some (.int .i64 n) := by rw [cell_of hb1]; rfl
  have d1 : w1.cell? ⟨w.heap.size, 1, none⟩ = some (.int .i32 s) := by rw [cell_of hb1]; rfl
  clear hk1 h3 hb1
  go_wp2_with fail
  refine (AsDec_any n s _ HN.out (by have := HS.out; omega)).mono ?_
  rintro e w2 ⟨p, b, rfl, hp, hd, hk, hbb⟩
  have K2 := Lib.hid (K1.out.same hk)
  have D2 := Lib.hid hd
  clear hk hd hp hbb
  go_wp2_with fail
  refine (HBIG.out _ p b D2.out K2.out).mono ?_
  rintro e w3 ⟨v, rfl, hby, hk3⟩
  have K3 := Lib.hid (K2.out.same hk3)
  have HBY := Lib.hid hby
  clear hby hk3
  go_wp2_with fail
  go_ret2
  exact ⟨v, rfl, HBY.out, K3.out⟩
set_option maxHeartbeats 4000000 in
theorem amtCanon_over2 (n m s E E' : Int) (k : Nat) (T : ByteArray) (w : World) (hfac : ∀ w, Calls Tryz.prog 191 #[.int .i64 n, .int .i64 10] w (FacRes w m k)) (hE : s + (k : Int) = E) (hs : -100 ≤ s ∧ s ≤ 100) (hEr : E = -1)
    (hm : -9223372036854775808 ≤ m ∧ m ≤ 9223372036854775807) (hov : ¬ (-9223372036854775807 ≤ m * 100 ∧ m * 100 ≤ 9223372036854775807)) (hn : -9223372036854775808 ≤ n ∧ n ≤ 9223372036854775807)
    (hbig : ∀ w' p b, DecAt w' p n (-s) b → Kept (fun _ => False) w w' → Calls Tryz.prog 150 #[.agg #[.pointer (some ⟨p, 0, none⟩)], .slice none 0 0] w' (CanB w' T E')) :
    Calls Tryz.prog 151 #[.agg #[.int .i64 n, .int .i32 s], .slice none 0 0] w (CanB w T E') := by
  have k0 : Kept (fun _ => False) w (w.alloc (.cells #[.int .i64 n, .int .i32 s] 60)) := (Kept.refl _ _).alloc _
  have hb := heap_alloc_new w (.cells #[.int .i64 n, .int .i32 s] 60)
  have HF := Lib.hid hfac
  have K0 := Lib.hid k0
  have HB := Lib.hid hb
  generalize hW : w.alloc (.cells #[.int .i64 n, .int .i32 s] 60) = W at *
  have c0 : W.cell? ⟨w.heap.size, 0, none⟩ = some (.int .i64 n) := by rw [cell_of hb]; rfl
  have c1 : W.cell? ⟨w.heap.size, 1, none⟩ = some (.int .i32 s) := by rw [cell_of hb]; rfl
  have e1 : IntKind.i32.wrap (s + (k : Int)) = E := by rw [hE, IntKind.wrap_i32]; omega
  have e2 : wrap32 (s + (k : Int)) = E := by rw [← i32_wrap]; exact e1
  have HM := Lib.hid (fun w => mul100_any m w hm.1 hm.2)
  have HOV := Lib.hid hov
  have HN := Lib.hid hn
  have HS := Lib.hid hs
  have HBIG := Lib.hid hbig
  clear hm hov hn hfac hb k0 hE hs hbig
  subst hEr
  go_enter Tryz.func151, Tryz.ntmps151
  go_wp2_with fail
  refine (HF.out _).mono ?_
  rintro e w1 ⟨rfl, rfl⟩
  go_wp2_with fail
  refine (HM.out _).mono ?_
  rintro e w1 ⟨⟨c, kk, rfl, -, h3⟩, hk1⟩
  obtain rfl := h3 HOV.out
  have K1 := Lib.hid (K0.out.same hk1)
  have hb1 := hk1.at HB.out (fun f => f)
  have d0 : w1.cell? ⟨w.heap.size, 0, none⟩ = some (.int .i64 n) := by rw [cell_of hb1]; rfl
  have d1 : w1.cell? ⟨w.heap.size, 1, none⟩ = some (.int .i32 s) := by rw [cell_of hb1]; rfl
  clear hk1 h3 hb1
  go_wp2_with fail
  refine (AsDec_any n s _ HN.out (by have := HS.out; omega)).mono ?_
  rintro e w2 ⟨p, b, rfl, hp, hd, hk, hbb⟩
  have K2 := Lib.hid (K1.out.same hk)
  have D2 := Lib.hid hd
  clear hk hd hp hbb
  go_wp2_with fail
  refine (HBIG.out _ p b D2.out K2.out).mono ?_
  rintro e w3 ⟨v, rfl, hby, hk3⟩
  have K3 := Lib.hid (K2.out.same hk3)
  have HBY := Lib.hid hby
  clear hby hk3
  go_wp2_with fail
  go_ret2
  exact ⟨v, rfl, HBY.out, K3.out⟩
set_option maxHeartbeats 4000000 in
theorem amtCanon_min3 (n s : Int) (w : World) (hn : n = -9223372036854775808) (hs : s = -3) (ht : Tab10 w) :
    Calls Tryz.prog 151 #[.agg #[.int .i64 n, .int .i32 s], .slice none 0 0] w (CanB w (itoaB n) (-3)) := by
  obtain ⟨T, hT⟩ : ∃ T, T = itoaB n := ⟨_, rfl⟩
  have HT := Lib.hid ht
  have HA : Hid (∀ w', Kept (fun _ => False) w w' → Calls Tryz.prog 192 #[.slice none 0 0, .int .i64 n, .int .i64 10] w' (BytRes w' T)) := fun w' hk => by
    rw [hT]
    exact AppendInt_nil _ w' (by omega) (by omega) (HT.out.old hk)
  rw [← hT]
  have hfac := fun w => fac10_min n hn w
  have hE : s + ((0 : Nat) : Int) = -3 := by omega
  obtain ⟨k, hk⟩ : ∃ k : Nat, k = 0 := ⟨0, rfl⟩
  obtain ⟨E, hEE⟩ : ∃ E : Int, E = -3 := ⟨_, rfl⟩
  rw [← hk, ← hEE] at hE
  rw [← hk] at hfac
  have k0 : Kept (fun _ => False) w (w.alloc (.cells #[.int .i64 n, .int .i32 s] 60)) := (Kept.refl _ _).alloc _
  have hb := heap_alloc_new w (.cells #[.int .i64 n, .int .i32 s] 60)
  have HF := Lib.hid hfac
  have K0 := Lib.hid k0
  have HB := Lib.hid hb
  generalize hW : w.alloc (.cells #[.int .i64 n, .int .i32 s] 60) = W at *
  have c0 : W.cell? ⟨w.heap.size, 0, none⟩ = some (.int .i64 n) := by rw [cell_of hb]; rfl
  have c1 : W.cell? ⟨w.heap.size, 1, none⟩ = some (.int .i32 s) := by rw [cell_of hb]; rfl
  have e1 : IntKind.i32.wrap (s + (k : Int)) = E := by rw [hE, IntKind.wrap_i32]; omega
  have e2 : wrap32 (s + (k : Int)) = E := by rw [← i32_wrap]; exact e1
  clear hfac hb k0 hE hn hT ht hk hs
  subst hEE
  go_enter Tryz.func151, Tryz.ntmps151
  go_wp2_with fail
  refine (HF.out _).mono ?_
  rintro e w1 ⟨rfl, rfl⟩
  go_wp2_with fail
  refine (HA.out _ K0.out).mono ?_
  rintro e w2 ⟨v, rfl, hby, hk2⟩
  have K2 := Lib.hid (K0.out.same hk2)
  have HBY := Lib.hid hby
  clear hby hk2
  go_wp2_with fail
  go_ret2
  exact ⟨v, rfl, HBY.out, K2.out⟩
end Go.Proofs.YtjebnpkebccffaaGreatDoor
namespace Go.Proofs.YtjebnpkebccffaaGreatDoor
open Go.RowKit
open Go.Proofs.YtjebnpkebccffaaGreatDoorW.PrintLast
theorem cells2' {w : World} {q : Nat} {a0 a1 : Value} {T : TypeId} {fz : Nat × Nat} (h : w.heap[q]? = some (.cells #[a0, a1] T fz)) : w.cell? ⟨q, 0, none⟩ = some a0 ∧ w.cell? ⟨q, 1, none⟩ = some a1 :=
  ⟨by rw [cell_of h]; rfl, by rw [cell_of h]; rfl⟩
set_option maxRecDepth 100000 in
set_option maxHeartbeats 4000000 in
theorem Cmp_up (n s c r : Int) (w : World) (hn : -9223372036854775808 ≤ n ∧ n ≤ 9223372036854775807) (hc : -9223372036854775808 ≤ c ∧ c ≤ 9223372036854775807) (hs : -1000 ≤ s ∧ s ≤ 1000) (h2 : 18 ≤ s)
    (hcmp : ∀ w' p q b b', DecAt w' p n (-s) b → DecAt w' q c 0 b' → p ≠ q → Calls Tryz.prog 68 #[.pointer (some ⟨p, 0, none⟩), .pointer (some ⟨q, 0, none⟩)] w' (CmpRes w' r))
    (hdiv : ∀ w, Calls Tryz.prog 188 #[.int .i64 c, .int .i32 s] w (DivRes w 0 c false)) :
    Calls Tryz.prog 147 #[.agg #[.int .i64 n, .int .i32 s], .agg #[.int .i64 c, .int .i32 0]] w (CmpRes w r) := by
  have q1 : (s == 0) = false := beqF (by omega)
  have q2 : decide (0 < s) = true := decT (by omega)
  have e1 : wrap32 s = s := by unfold wrap32; omega
  have hb1 := heap_alloc_new w (.cells #[.int .i64 n, .int .i32 s] 60)
  have hb1' := ((Kept.refl (fun _ => False) (w.alloc (.cells #[.int .i64 n, .int .i32 s] 60))).alloc (.cells #[.int .i64 c, .int .i32 0] 60)).at hb1 (fun f => f)
  have hb2 := heap_alloc_new (w.alloc (.cells #[.int .i64 n, .int .i32 s] 60)) (.cells #[.int .i64 c, .int .i32 0] 60)
  have ee : (w.alloc (.cells #[.int .i64 n, .int .i32 s] 60)).heap.size = w.heap.size + 1 := by simp
  rw [ee] at hb2
  have k0 : Kept (fun _ => False) w ((w.alloc (.cells #[.int .i64 n, .int .i32 s] 60)).alloc (.cells #[.int .i64 c, .int .i32 0] 60)) := ((Kept.refl _ _).alloc _).alloc _
  generalize hW : (w.alloc (.cells #[.int .i64 n, .int .i32 s] 60)).alloc (.cells #[.int .i64 c, .int .i32 0] 60) = W at *
  obtain ⟨a0, a1⟩ := cells2' hb1'
  obtain ⟨g0, g1⟩ := cells2' hb2
  have HN := Lib.hid hn
  have HC := Lib.hid hc
  have HS := Lib.hid hs
  have HCMP := Lib.hid hcmp
  have HDIV := Lib.hid hdiv
  have KD := Lib.hid k0
  have HB10 := Lib.hid hb1'
  have HB20 := Lib.hid hb2
  clear hb1 hb1' hb2 k0 ee hcmp hdiv
  clear hn hc hs h2
  go_enter Tryz.func147, Tryz.ntmps147
  go_wp2_with fail
  refine (HDIV.out _).mono ?_
  rintro e w1 ⟨rfl, hk⟩
  have K1 := Lib.hid (KD.out.same hk).drew
  have hh1 := hk.at HB10.out (fun f => f)
  have hh2 := hk.at HB20.out (fun f => f)
  have HB1 := Lib.hid (hk.at HB10.out (fun f => f))
  have HB2 := Lib.hid (hk.at HB20.out (fun f => f))
  have hd1 : w1.drew.heap[w.heap.size]? = _ := hh1
  have hd2 : w1.drew.heap[w.heap.size + 1]? = _ := hh2
  obtain ⟨a0, a1⟩ := cells2' hh1
  obtain ⟨g0, g1⟩ := cells2' hh2
  obtain ⟨d0, d1⟩ := cells2' hd1
  obtain ⟨e0, e1⟩ := cells2' hd2
  have HD1 := Lib.hid hd1
  have HD2 := Lib.hid hd2
  clear hk hh1 hh2 hd1 hd2
  go_wp2_with fail
  refine start_ (n := 6) (S := fun w' => w'.cell? ⟨w.heap.size, 0, none⟩ = some (.int .i64 n) ∧ w'.cell? ⟨w.heap.size, 1, none⟩ = some (.int .i32 s) ∧ w'.cell? ⟨w.heap.size + 1, 0, none⟩ = some (.int .i64 c) ∧ w'.cell? ⟨w.heap.size + 1, 1, none⟩ = some (.int .i32 0)) (ds := []) #[false, false, false, false, false, false] (by kernel_rfl) rfl rfl ⟨d0, d1, e0, e1⟩ (fun hHeld => ?_)
  refine take_ (i := 0) (N := some 68) (v := ?_) (a' := ?_) #[true, false, false, false, false, false] rfl rfl (by kernel_rfl) (fun _ _ _ h => h) (Or.inl ⟨by rfl, ?_⟩) hHeld ?_ ?_
  rotate_left
  · rintro w' ⟨s0, s1, s2, s3⟩
    go_simp
    with_reducible rfl
  rotate_left
  · simp only [Act.put, List.setIfInBounds_toArray, List.set_cons_zero, List.set_cons_succ, i64_w, i32_w]
    rfl
  refine take_ (i := 2) (N := some 70) (v := ?_) (a' := ?_) #[true, false, true, false, false, false] rfl rfl (by kernel_rfl) (fun _ _ _ h => h) (Or.inl ⟨by rfl, ?_⟩) hHeld ?_ ?_
  rotate_left
  · rintro w' ⟨s0, s1, s2, s3⟩
    go_simp
    with_reducible rfl
  rotate_left
  · simp only [Act.put, List.setIfInBounds_toArray, List.set_cons_zero, List.set_cons_succ, i64_w, i32_w]
    rfl
  refine one_ (i := 1) (N := some 69) #[true, true, true, false, false, false] rfl rfl (by kernel_rfl) (by decide) (fun K hK => ?_)
  refine goes_ Tryz.func121 (by kernel_rfl) rfl #[.agg #[.int .i64 n, .int .i32 s]] (by rfl) rfl rfl (by simp only [List.map_toArray, List.map_cons, List.map_nil]; rfl) ?_
  with_reducible refine (AsDec_any n s _ HN.out HS.out).mono ?_
  rintro e w9 ⟨p9, b9, rfl, hp9, hd9, hk, hb9⟩
  have K9 := Lib.hid (K1.out.same hk)
  have B9a := Lib.hid (hk.at HD1.out (fun f => f))
  have B9b := Lib.hid (hk.at HD2.out (fun f => f))
  obtain ⟨r0, r1⟩ := cells2' B9a.out
  obtain ⟨t0, t1⟩ := cells2' B9b.out
  have D9 := Lib.hid hd9
  clear hk hd9 hb9 hp9
  refine ⟨_, rfl, ?_⟩
  refine hK.out _ _ ⟨r0, r1, t0, t1⟩ (fun hHeld => ?_)
  clear hK K
  refine norm_ (a' := ?_) ?_ ?_
  rotate_left
  · show Act.put _ (some 69) _ = _
    simp only [Act.put, List.setIfInBounds_toArray, List.set_cons_zero, List.set_cons_succ, i64_w, i32_w]
    rfl
  refine one_ (i := 3) (N := some 71) #[true, true, true, true, false, false] rfl rfl (by kernel_rfl) (by decide) (fun K hK => ?_)
  refine goes_ Tryz.func121 (by kernel_rfl) rfl #[.agg #[.int .i64 c, .int .i32 0]] (by rfl) rfl rfl (by simp only [List.map_toArray, List.map_cons, List.map_nil]; rfl) ?_
  with_reducible refine (AsDec_any c 0 _ HC.out (by omega)).mono ?_
  rintro e w10 ⟨p10, b10, rfl, hp10, hd10, hk, hb10⟩
  have D9b : Hid (DecAt w10 p9 n (-s) b9) := Lib.hid (IntAt.old D9.out hk)
  have hpl := D9.out.lt
  have HNE : Hid (p9 ≠ p10) := by intro e; omega
  rw [show (-0 : Int) = 0 by omega] at hd10
  have K10 := Lib.hid (K9.out.same hk)
  have B10a := Lib.hid (hk.at B9a.out (fun f => f))
  have B10b := Lib.hid (hk.at B9b.out (fun f => f))
  obtain ⟨r0, r1⟩ := cells2' B10a.out
  obtain ⟨t0, t1⟩ := cells2' B10b.out
  have D10 := Lib.hid hd10
  clear hk hd10 hb10 hp10 hpl
  refine ⟨_, rfl, ?_⟩
  refine hK.out _ _ ⟨r0, r1, t0, t1⟩ (fun hHeld => ?_)
  clear hK K
  refine norm_ (a' := ?_) ?_ ?_
  rotate_left
  · show Act.put _ (some 71) _ = _
    simp only [Act.put, List.setIfInBounds_toArray, List.set_cons_zero, List.set_cons_succ, i64_w, i32_w]
    rfl
  refine one_ (i := 4) (N := some 72) #[true, true, true, true, true, false] rfl rfl (by kernel_rfl) (by decide) (fun K hK => ?_)
  refine goes_ Tryz.func68 (by kernel_rfl) rfl #[.pointer (some ⟨p9, 0, none⟩), .pointer (some ⟨p10, 0, none⟩)] (by rfl) rfl rfl (by simp only [List.map_toArray, List.map_cons, List.map_nil]; rfl) ?_
  with_reducible refine (HCMP.out _ p9 p10 b9 b10 D9b.out D10.out HNE.out).mono ?_
  rintro e w11 ⟨rfl, hk⟩
  have K11 := Lib.hid (K10.out.same hk)
  have B11a := Lib.hid (hk.at B10a.out (fun f => f))
  have B11b := Lib.hid (hk.at B10b.out (fun f => f))
  obtain ⟨r0, r1⟩ := cells2' B11a.out
  obtain ⟨t0, t1⟩ := cells2' B11b.out
  clear hk
  refine ⟨_, rfl, ?_⟩
  refine hK.out _ _ ⟨r0, r1, t0, t1⟩ (fun hHeld => ?_)
  clear hK K
  refine norm_ (a' := ?_) ?_ ?_
  rotate_left
  · show Act.put _ (some 72) _ = _
    simp only [Act.put, List.setIfInBounds_toArray, List.set_cons_zero, List.set_cons_succ, i64_w, i32_w]
    rfl
  refine pure_ (i := 5) (N := some 4) (v := ?_) (a' := ?_) #[true, true, true, true, true, true] rfl rfl (by kernel_rfl) (fun _ _ _ h => h) (Or.inl ⟨by rfl, ?_⟩) ?_ ?_
  rotate_left
  · intro w'
    go_simp
    with_reducible rfl
  rotate_left
  · simp only [Act.put, List.setIfInBounds_toArray, List.set_cons_zero, List.set_cons_succ, i64_w, i32_w]
    rfl
  refine done_ (by kernel_rfl) ?_

  go_wp2_with fail
  go_ret
  exact ⟨rfl, K11.out⟩
set_option maxRecDepth 100000 in
set_option maxHeartbeats 4000000 in
theorem Cmp_dn (n s c r : Int) (w : World) (hn : -9223372036854775808 ≤ n ∧ n ≤ 9223372036854775807) (hc : -9223372036854775808 ≤ c ∧ c ≤ 9223372036854775807) (hs : -1000 ≤ s ∧ s ≤ 1000) (h2 : s ≤ -18)
    (hcmp : ∀ w' p q b b', DecAt w' p n (-s) b → DecAt w' q c 0 b' → p ≠ q → Calls Tryz.prog 68 #[.pointer (some ⟨p, 0, none⟩), .pointer (some ⟨q, 0, none⟩)] w' (CmpRes w' r))
    (hdiv : ∀ w, Calls Tryz.prog 188 #[.int .i64 n, .int .i32 (-s)] w (DivRes w 0 n false)) :
    Calls Tryz.prog 147 #[.agg #[.int .i64 n, .int .i32 s], .agg #[.int .i64 c, .int .i32 0]] w (CmpRes w r) := by
  have q1 : (s == 0) = false := beqF (by omega)
  have q2 : decide (0 < s) = false := decF (by omega)
  have e1 : wrap32 (-s) = -s := by unfold wrap32; omega
  have hb1 := heap_alloc_new w (.cells #[.int .i64 n, .int .i32 s] 60)
  have hb1' := ((Kept.refl (fun _ => False) (w.alloc (.cells #[.int .i64 n, .int .i32 s] 60))).alloc (.cells #[.int .i64 c, .int .i32 0] 60)).at hb1 (fun f => f)
  have hb2 := heap_alloc_new (w.alloc (.cells #[.int .i64 n, .int .i32 s] 60)) (.cells #[.int .i64 c, .int .i32 0] 60)
  have ee : (w.alloc (.cells #[.int .i64 n, .int .i32 s] 60)).heap.size = w.heap.size + 1 := by simp
  rw [ee] at hb2
  have k0 : Kept (fun _ => False) w ((w.alloc (.cells #[.int .i64 n, .int .i32 s] 60)).alloc (.cells #[.int .i64 c, .int .i32 0] 60)) := ((Kept.refl _ _).alloc _).alloc _
  generalize hW : (w.alloc (.cells #[.int .i64 n, .int .i32 s] 60)).alloc (.cells #[.int .i64 c, .int .i32 0] 60) = W at *
  obtain ⟨a0, a1⟩ := cells2' hb1'
  obtain ⟨g0, g1⟩ := cells2' hb2
  have HN := Lib.hid hn
  have HC := Lib.hid hc
  have HS := Lib.hid hs
  have HCMP := Lib.hid hcmp
  have HDIV := Lib.hid hdiv
  have KD := Lib.hid k0
  have HB10 := Lib.hid hb1'
  have HB20 := Lib.hid hb2
  clear hb1 hb1' hb2 k0 ee hcmp hdiv
  clear hn hc hs h2
  go_enter Tryz.func147, Tryz.ntmps147
  go_wp2_with fail
  refine (HDIV.out _).mono ?_
  rintro e w1 ⟨rfl, hk⟩
  have K1 := Lib.hid (KD.out.same hk).drew
  have hh1 := hk.at HB10.out (fun f => f)
  have hh2 := hk.at HB20.out (fun f => f)
  have HB1 := Lib.hid (hk.at HB10.out (fun f => f))
  have HB2 := Lib.hid (hk.at HB20.out (fun f => f))
  have hd1 : w1.drew.heap[w.heap.size]? = _ := hh1
  have hd2 : w1.drew.heap[w.heap.size + 1]? = _ := hh2
  obtain ⟨a0, a1⟩ := cells2' hh1
  obtain ⟨g0, g1⟩ := cells2' hh2
  obtain ⟨d0, d1⟩ := cells2' hd1
  obtain ⟨e0, e1⟩ := cells2' hd2
  have HD1 := Lib.hid hd1
  have HD2 := Lib.hid hd2
  clear hk hh1 hh2 hd1 hd2
  go_wp2_with fail
  refine start_ (n := 6) (S := fun w' => w'.cell? ⟨w.heap.size, 0, none⟩ = some (.int .i64 n) ∧ w'.cell? ⟨w.heap.size, 1, none⟩ = some (.int .i32 s) ∧ w'.cell? ⟨w.heap.size + 1, 0, none⟩ = some (.int .i64 c) ∧ w'.cell? ⟨w.heap.size + 1, 1, none⟩ = some (.int .i32 0)) (ds := []) #[false, false, false, false, false, false] (by kernel_rfl) rfl rfl ⟨d0, d1, e0, e1⟩ (fun hHeld => ?_)
  refine take_ (i := 0) (N := some 25) (v := ?_) (a' := ?_) #[true, false, false, false, false, false] rfl rfl (by kernel_rfl) (fun _ _ _ h => h) (Or.inl ⟨by rfl, ?_⟩) hHeld ?_ ?_
  rotate_left
  · rintro w' ⟨s0, s1, s2, s3⟩
    go_simp
    with_reducible rfl
  rotate_left
  · simp only [Act.put, List.setIfInBounds_toArray, List.set_cons_zero, List.set_cons_succ, i64_w, i32_w]
    rfl
  refine take_ (i := 2) (N := some 27) (v := ?_) (a' := ?_) #[true, false, true, false, false, false] rfl rfl (by kernel_rfl) (fun _ _ _ h => h) (Or.inl ⟨by rfl, ?_⟩) hHeld ?_ ?_
  rotate_left
  · rintro w' ⟨s0, s1, s2, s3⟩
    go_simp
    with_reducible rfl
  rotate_left
  · simp only [Act.put, List.setIfInBounds_toArray, List.set_cons_zero, List.set_cons_succ, i64_w, i32_w]
    rfl
  refine one_ (i := 1) (N := some 26) #[true, true, true, false, false, false] rfl rfl (by kernel_rfl) (by decide) (fun K hK => ?_)
  refine goes_ Tryz.func121 (by kernel_rfl) rfl #[.agg #[.int .i64 n, .int .i32 s]] (by rfl) rfl rfl (by simp only [List.map_toArray, List.map_cons, List.map_nil]; rfl) ?_
  with_reducible refine (AsDec_any n s _ HN.out HS.out).mono ?_
  rintro e w9 ⟨p9, b9, rfl, hp9, hd9, hk, hb9⟩
  have K9 := Lib.hid (K1.out.same hk)
  have B9a := Lib.hid (hk.at HD1.out (fun f => f))
  have B9b := Lib.hid (hk.at HD2.out (fun f => f))
  obtain ⟨r0, r1⟩ := cells2' B9a.out
  obtain ⟨t0, t1⟩ := cells2' B9b.out
  have D9 := Lib.hid hd9
  clear hk hd9 hb9 hp9
  refine ⟨_, rfl, ?_⟩
  refine hK.out _ _ ⟨r0, r1, t0, t1⟩ (fun hHeld => ?_)
  clear hK K
  refine norm_ (a' := ?_) ?_ ?_
  rotate_left
  · show Act.put _ (some 26) _ = _
    simp only [Act.put, List.setIfInBounds_toArray, List.set_cons_zero, List.set_cons_succ, i64_w, i32_w]
    rfl
  refine one_ (i := 3) (N := some 28) #[true, true, true, true, false, false] rfl rfl (by kernel_rfl) (by decide) (fun K hK => ?_)
  refine goes_ Tryz.func121 (by kernel_rfl) rfl #[.agg #[.int .i64 c, .int .i32 0]] (by rfl) rfl rfl (by simp only [List.map_toArray, List.map_cons, List.map_nil]; rfl) ?_
  with_reducible refine (AsDec_any c 0 _ HC.out (by omega)).mono ?_
  rintro e w10 ⟨p10, b10, rfl, hp10, hd10, hk, hb10⟩
  have D9b : Hid (DecAt w10 p9 n (-s) b9) := Lib.hid (IntAt.old D9.out hk)
  have hpl := D9.out.lt
  have HNE : Hid (p9 ≠ p10) := by intro e; omega
  rw [show (-0 : Int) = 0 by omega] at hd10
  have K10 := Lib.hid (K9.out.same hk)
  have B10a := Lib.hid (hk.at B9a.out (fun f => f))
  have B10b := Lib.hid (hk.at B9b.out (fun f => f))
  obtain ⟨r0, r1⟩ := cells2' B10a.out
  obtain ⟨t0, t1⟩ := cells2' B10b.out
  have D10 := Lib.hid hd10
  clear hk hd10 hb10 hp10 hpl
  refine ⟨_, rfl, ?_⟩
  refine hK.out _ _ ⟨r0, r1, t0, t1⟩ (fun hHeld => ?_)
  clear hK K
  refine norm_ (a' := ?_) ?_ ?_
  rotate_left
  · show Act.put _ (some 28) _ = _
    simp only [Act.put, List.setIfInBounds_toArray, List.set_cons_zero, List.set_cons_succ, i64_w, i32_w]
    rfl
  refine one_ (i := 4) (N := some 29) #[true, true, true, true, true, false] rfl rfl (by kernel_rfl) (by decide) (fun K hK => ?_)
  refine goes_ Tryz.func68 (by kernel_rfl) rfl #[.pointer (some ⟨p9, 0, none⟩), .pointer (some ⟨p10, 0, none⟩)] (by rfl) rfl rfl (by simp only [List.map_toArray, List.map_cons, List.map_nil]; rfl) ?_
  with_reducible refine (HCMP.out _ p9 p10 b9 b10 D9b.out D10.out HNE.out).mono ?_
  rintro e w11 ⟨rfl, hk⟩
  have K11 := Lib.hid (K10.out.same hk)
  have B11a := Lib.hid (hk.at B10a.out (fun f => f))
  have B11b := Lib.hid (hk.at B10b.out (fun f => f))
  obtain ⟨r0, r1⟩ := cells2' B11a.out
  obtain ⟨t0, t1⟩ := cells2' B11b.out
  clear hk
  refine ⟨_, rfl, ?_⟩
  refine hK.out _ _ ⟨r0, r1, t0, t1⟩ (fun hHeld => ?_)
  clear hK K
  refine norm_ (a' := ?_) ?_ ?_
  rotate_left
  · show Act.put _ (some 29) _ = _
    simp only [Act.put, List.setIfInBounds_toArray, List.set_cons_zero, List.set_cons_succ, i64_w, i32_w]
    rfl
  refine pure_ (i := 5) (N := some 4) (v := ?_) (a' := ?_) #[true, true, true, true, true, true] rfl rfl (by kernel_rfl) (fun _ _ _ h => h) (Or.inl ⟨by rfl, ?_⟩) ?_ ?_
  rotate_left
  · intro w'
    go_simp
    with_reducible rfl
  rotate_left
  · simp only [Act.put, List.setIfInBounds_toArray, List.set_cons_zero, List.set_cons_succ, i64_w, i32_w]
    rfl
  refine done_ (by kernel_rfl) ?_

  go_wp2_with fail
  go_ret
  exact ⟨rfl, K11.out⟩
end Go.Proofs.YtjebnpkebccffaaGreatDoor
namespace Go.Proofs.YtjebnpkebccffaaGreatDoor
open Go.RowKit
theorem cmpZ_lt {a b : Int} (h : a < b) : cmpZ a b = -1 := by unfold cmpZ; rw [if_pos h]
theorem cmpZ_gt {a b : Int} (h : b < a) : cmpZ a b = 1 := by unfold cmpZ; rw [if_neg (by omega), if_pos h]
theorem cmp_div {n c P q r : Int} (h : c = q * P + r) (h1 : -P < r) (h2 : r < P) : (n = q → r = 0 → cmpZ (n * P) c = 0) ∧ (n = q → 0 < r → cmpZ (n * P) c = -1) ∧ (n = q → r < 0 → cmpZ (n * P) c = 1) ∧ (n < q → cmpZ (n * P) c = -1) ∧ (q < n → cmpZ (n * P) c = 1) := by
  refine ⟨?_, ?_, ?_, ?_, ?_⟩
  · rintro rfl rfl; rw [h, Int.add_zero]; exact cmpZ_self _
  · rintro rfl h3; exact cmpZ_lt (by omega)
  · rintro rfl h3; exact cmpZ_gt (by omega)
  · intro h3
    have h4 : n * P ≤ (q - 1) * P := Int.mul_le_mul_of_nonneg_right (by omega) (by omega)
    rw [Int.sub_mul, Int.one_mul] at h4
    exact cmpZ_lt (by omega)
  · intro h3
    have h4 : (q + 1) * P ≤ n * P := Int.mul_le_mul_of_nonneg_right (by omega) (by omega)
    rw [Int.add_mul, Int.one_mul] at h4
    exact cmpZ_gt (by omega)
theorem cmpZ_swap (a b : Int) : cmpZ a b = -cmpZ b a := by
  rcases Int.lt_trichotomy a b with h | h | h
  · rw [cmpZ_lt h, cmpZ_gt h]
  · subst h; rw [cmpZ_self]; rfl
  · rw [cmpZ_gt h, cmpZ_lt h]; rfl
theorem tdiv_parts (c : Int) (P : Nat) (hP : 0 < P) : c = c.tdiv (P : Int) * (P : Int) + c.tmod (P : Int) ∧ -(P : Int) < c.tmod (P : Int) ∧ c.tmod (P : Int) < (P : Int) := by
  refine ⟨?_, ?_, ?_⟩
  · have := Int.tmod_add_tdiv_mul c (P : Int); omega
  · have h1 := Int.tmod_lt_of_pos (-c) (show (0 : Int) < (P : Int) by omega)
    rw [Int.neg_tmod] at h1
    omega
  · exact Int.tmod_lt_of_pos c (by omega)
set_option maxRecDepth 100000 in
set_option maxHeartbeats 4000000 in
theorem Cmp_up_zero (n s c q r : Int) (w : World) (hs : 1 ≤ s ∧ s ≤ 1000) (h1 : n = q) (h2 : r = 0) (hdiv : ∀ w, Calls Tryz.prog 188 #[.int .i64 c, .int .i32 s] w (DivRes w q r true)) :
    Calls Tryz.prog 147 #[.agg #[.int .i64 n, .int .i32 s], .agg #[.int .i64 c, .int .i32 0]] w (CmpRes w (0)) := by
  have q1 : (s == 0) = false := beqF (by omega)
  have q2 : decide (0 < s) = true := decT (by omega)
  have e1 : wrap32 s = s := by unfold wrap32; omega
  have f1 : (q == n) = true := beqT (by omega)
  have f2 : (r == 0) = true := beqT (by omega)
  have hb1 := heap_alloc_new w (.cells #[.int .i64 n, .int .i32 s] 60)
  have hb1' := ((Kept.refl (fun _ => False) (w.alloc (.cells #[.int .i64 n, .int .i32 s] 60))).alloc (.cells #[.int .i64 c, .int .i32 0] 60)).at hb1 (fun f => f)
  have hb2 := heap_alloc_new (w.alloc (.cells #[.int .i64 n, .int .i32 s] 60)) (.cells #[.int .i64 c, .int .i32 0] 60)
  have ee : (w.alloc (.cells #[.int .i64 n, .int .i32 s] 60)).heap.size = w.heap.size + 1 := by simp
  rw [ee] at hb2
  have k0 : Kept (fun _ => False) w ((w.alloc (.cells #[.int .i64 n, .int .i32 s] 60)).alloc (.cells #[.int .i64 c, .int .i32 0] 60)) := ((Kept.refl _ _).alloc _).alloc _
  generalize hW : (w.alloc (.cells #[.int .i64 n, .int .i32 s] 60)).alloc (.cells #[.int .i64 c, .int .i32 0] 60) = W at *
  obtain ⟨a0, a1⟩ := cells2' hb1'
  obtain ⟨g0, g1⟩ := cells2' hb2
  have HDIV := Lib.hid hdiv
  have KD := Lib.hid k0
  have HB10 := Lib.hid hb1'
  have HB20 := Lib.hid hb2
  clear hb1 hb1' hb2 k0 ee hdiv hs h1 h2
  go_enter Tryz.func147, Tryz.ntmps147
  go_wp2_with fail
  refine (HDIV.out _).mono ?_
  rintro e w1 ⟨rfl, hk⟩
  have hh1 := hk.at HB10.out (fun f => f)
  have hh2 := hk.at HB20.out (fun f => f)
  have K1 := Lib.hid (KD.out.same hk)
  have HKS : Hid (Kept (fun _ => False) w (w1.setCell ⟨w.heap.size + 1, 0, none⟩ (.int .i64 q))) := K1.out.setCell _ _ (by intro h; simp at h; try omega)
  have s1 := heap_set_same hh2 0 (.int .i64 q)
  have s2 : (w1.setCell ⟨w.heap.size + 1, 0, none⟩ (.int .i64 q)).heap[w.heap.size]? = _ := (heap_set_ne (by omega)).trans hh1
  have s3 : (w1.setCell ⟨w.heap.size + 1, 0, none⟩ (.int .i64 q)).cell? ⟨w.heap.size + 1, 0, none⟩ = some (.int .i64 q) := by rw [cell_of s1]; rfl
  have s4 := (cells2' s2).1
  have s5 := frozen_of hh2 0
  obtain ⟨a0, a1⟩ := cells2' hh1
  obtain ⟨g0, g1⟩ := cells2' hh2
  clear hk hh1 hh2 s1 s2
  generalize hY : w1.setCell ⟨w.heap.size + 1, 0, none⟩ (.int .i64 q) = Y at *
  go_wp2_with fail
  go_ret
  first | exact ⟨rfl, K1.out⟩ | exact ⟨rfl, HKS.out⟩
set_option maxRecDepth 100000 in
set_option maxHeartbeats 4000000 in
theorem Cmp_up_pos (n s c q r : Int) (w : World) (hs : 1 ≤ s ∧ s ≤ 1000) (h1 : n = q) (h2 : 0 < r) (hdiv : ∀ w, Calls Tryz.prog 188 #[.int .i64 c, .int .i32 s] w (DivRes w q r true)) :
    Calls Tryz.prog 147 #[.agg #[.int .i64 n, .int .i32 s], .agg #[.int .i64 c, .int .i32 0]] w (CmpRes w (-1)) := by
  have q1 : (s == 0) = false := beqF (by omega)
  have q2 : decide (0 < s) = true := decT (by omega)
  have e1 : wrap32 s = s := by unfold wrap32; omega
  have f1 : (q == n) = true := beqT (by omega)
  have f2 : (r == 0) = false := beqF (by omega)
  have f3 : decide (0 < r) = true := decT (by omega)
  have hb1 := heap_alloc_new w (.cells #[.int .i64 n, .int .i32 s] 60)
  have hb1' := ((Kept.refl (fun _ => False) (w.alloc (.cells #[.int .i64 n, .int .i32 s] 60))).alloc (.cells #[.int .i64 c, .int .i32 0] 60)).at hb1 (fun f => f)
  have hb2 := heap_alloc_new (w.alloc (.cells #[.int .i64 n, .int .i32 s] 60)) (.cells #[.int .i64 c, .int .i32 0] 60)
  have ee : (w.alloc (.cells #[.int .i64 n, .int .i32 s] 60)).heap.size = w.heap.size + 1 := by simp
  rw [ee] at hb2
  have k0 : Kept (fun _ => False) w ((w.alloc (.cells #[.int .i64 n, .int .i32 s] 60)).alloc (.cells #[.int .i64 c, .int .i32 0] 60)) := ((Kept.refl _ _).alloc _).alloc _
  generalize hW : (w.alloc (.cells #[.int .i64 n, .int .i32 s] 60)).alloc (.cells #[.int .i64 c, .int .i32 0] 60) = W at *
  obtain ⟨a0, a1⟩ := cells2' hb1'
  obtain ⟨g0, g1⟩ := cells2' hb2
  have HDIV := Lib.hid hdiv
  have KD := Lib.hid k0
  have HB10 := Lib.hid hb1'
  have HB20 := Lib.hid hb2
  clear hb1 hb1' hb2 k0 ee hdiv hs h1 h2
  go_enter Tryz.func147, Tryz.ntmps147
  go_wp2_with fail
  refine (HDIV.out _).mono ?_
  rintro e w1 ⟨rfl, hk⟩
  have hh1 := hk.at HB10.out (fun f => f)
  have hh2 := hk.at HB20.out (fun f => f)
  have K1 := Lib.hid (KD.out.same hk)
  have HKS : Hid (Kept (fun _ => False) w (w1.setCell ⟨w.heap.size + 1, 0, none⟩ (.int .i64 q))) := K1.out.setCell _ _ (by intro h; simp at h; try omega)
  have s1 := heap_set_same hh2 0 (.int .i64 q)
  have s2 : (w1.setCell ⟨w.heap.size + 1, 0, none⟩ (.int .i64 q)).heap[w.heap.size]? = _ := (heap_set_ne (by omega)).trans hh1
  have s3 : (w1.setCell ⟨w.heap.size + 1, 0, none⟩ (.int .i64 q)).cell? ⟨w.heap.size + 1, 0, none⟩ = some (.int .i64 q) := by rw [cell_of s1]; rfl
  have s4 := (cells2' s2).1
  have s5 := frozen_of hh2 0
  obtain ⟨a0, a1⟩ := cells2' hh1
  obtain ⟨g0, g1⟩ := cells2' hh2
  clear hk hh1 hh2 s1 s2
  generalize hY : w1.setCell ⟨w.heap.size + 1, 0, none⟩ (.int .i64 q) = Y at *
  go_wp2_with fail
  go_ret
  first | exact ⟨rfl, K1.out⟩ | exact ⟨rfl, HKS.out⟩
set_option maxRecDepth 100000 in
set_option maxHeartbeats 4000000 in
theorem Cmp_up_neg (n s c q r : Int) (w : World) (hs : 1 ≤ s ∧ s ≤ 1000) (h1 : n = q) (h2 : r < 0) (hdiv : ∀ w, Calls Tryz.prog 188 #[.int .i64 c, .int .i32 s] w (DivRes w q r true)) :
    Calls Tryz.prog 147 #[.agg #[.int .i64 n, .int .i32 s], .agg #[.int .i64 c, .int .i32 0]] w (CmpRes w (1)) := by
  have q1 : (s == 0) = false := beqF (by omega)
  have q2 : decide (0 < s) = true := decT (by omega)
  have e1 : wrap32 s = s := by unfold wrap32; omega
  have f1 : (q == n) = true := beqT (by omega)
  have f2 : (r == 0) = false := beqF (by omega)
  have f3 : decide (0 < r) = false := decF (by omega)
  have hb1 := heap_alloc_new w (.cells #[.int .i64 n, .int .i32 s] 60)
  have hb1' := ((Kept.refl (fun _ => False) (w.alloc (.cells #[.int .i64 n, .int .i32 s] 60))).alloc (.cells #[.int .i64 c, .int .i32 0] 60)).at hb1 (fun f => f)
  have hb2 := heap_alloc_new (w.alloc (.cells #[.int .i64 n, .int .i32 s] 60)) (.cells #[.int .i64 c, .int .i32 0] 60)
  have ee : (w.alloc (.cells #[.int .i64 n, .int .i32 s] 60)).heap.size = w.heap.size + 1 := by simp
  rw [ee] at hb2
  have k0 : Kept (fun _ => False) w ((w.alloc (.cells #[.int .i64 n, .int .i32 s] 60)).alloc (.cells #[.int .i64 c, .int .i32 0] 60)) := ((Kept.refl _ _).alloc _).alloc _
  generalize hW : (w.alloc (.cells #[.int .i64 n, .int .i32 s] 60)).alloc (.cells #[.int .i64 c, .int .i32 0] 60) = W at *
  obtain ⟨a0, a1⟩ := cells2' hb1'
  obtain ⟨g0, g1⟩ := cells2' hb2
  have HDIV := Lib.hid hdiv
  have KD := Lib.hid k0
  have HB10 := Lib.hid hb1'
  have HB20 := Lib.hid hb2
  clear hb1 hb1' hb2 k0 ee hdiv hs h1 h2
  go_enter Tryz.func147, Tryz.ntmps147
  go_wp2_with fail
  refine (HDIV.out _).mono ?_
  rintro e w1 ⟨rfl, hk⟩
  have hh1 := hk.at HB10.out (fun f => f)
  have hh2 := hk.at HB20.out (fun f => f)
  have K1 := Lib.hid (KD.out.same hk)
  have HKS : Hid (Kept (fun _ => False) w (w1.setCell ⟨w.heap.size + 1, 0, none⟩ (.int .i64 q))) := K1.out.setCell _ _ (by intro h; simp at h; try omega)
  have s1 := heap_set_same hh2 0 (.int .i64 q)
  have s2 : (w1.setCell ⟨w.heap.size + 1, 0, none⟩ (.int .i64 q)).heap[w.heap.size]? = _ := (heap_set_ne (by omega)).trans hh1
  have s3 : (w1.setCell ⟨w.heap.size + 1, 0, none⟩ (.int .i64 q)).cell? ⟨w.heap.size + 1, 0, none⟩ = some (.int .i64 q) := by rw [cell_of s1]; rfl
  have s4 := (cells2' s2).1
  have s5 := frozen_of hh2 0
  obtain ⟨a0, a1⟩ := cells2' hh1
  obtain ⟨g0, g1⟩ := cells2' hh2
  clear hk hh1 hh2 s1 s2
  generalize hY : w1.setCell ⟨w.heap.size + 1, 0, none⟩ (.int .i64 q) = Y at *
  go_wp2_with fail
  go_ret
  first | exact ⟨rfl, K1.out⟩ | exact ⟨rfl, HKS.out⟩
set_option maxRecDepth 100000 in
set_option maxHeartbeats 4000000 in
theorem Cmp_up_lt (n s c q r : Int) (w : World) (hs : 1 ≤ s ∧ s ≤ 1000) (h1 : n < q) (hdiv : ∀ w, Calls Tryz.prog 188 #[.int .i64 c, .int .i32 s] w (DivRes w q r true)) :
    Calls Tryz.prog 147 #[.agg #[.int .i64 n, .int .i32 s], .agg #[.int .i64 c, .int .i32 0]] w (CmpRes w (-1)) := by
  have q1 : (s == 0) = false := beqF (by omega)
  have q2 : decide (0 < s) = true := decT (by omega)
  have e1 : wrap32 s = s := by unfold wrap32; omega
  have f1 : (q == n) = false := beqF (by omega)
  have f2 : (n == q) = false := beqF (by omega)
  have f3 : decide (n < q) = true := decT (by omega)
  have hb1 := heap_alloc_new w (.cells #[.int .i64 n, .int .i32 s] 60)
  have hb1' := ((Kept.refl (fun _ => False) (w.alloc (.cells #[.int .i64 n, .int .i32 s] 60))).alloc (.cells #[.int .i64 c, .int .i32 0] 60)).at hb1 (fun f => f)
  have hb2 := heap_alloc_new (w.alloc (.cells #[.int .i64 n, .int .i32 s] 60)) (.cells #[.int .i64 c, .int .i32 0] 60)
  have ee : (w.alloc (.cells #[.int .i64 n, .int .i32 s] 60)).heap.size = w.heap.size + 1 := by simp
  rw [ee] at hb2
  have k0 : Kept (fun _ => False) w ((w.alloc (.cells #[.int .i64 n, .int .i32 s] 60)).alloc (.cells #[.int .i64 c, .int .i32 0] 60)) := ((Kept.refl _ _).alloc _).alloc _
  generalize hW : (w.alloc (.cells #[.int .i64 n, .int .i32 s] 60)).alloc (.cells #[.int .i64 c, .int .i32 0] 60) = W at *
  obtain ⟨a0, a1⟩ := cells2' hb1'
  obtain ⟨g0, g1⟩ := cells2' hb2
  have HDIV := Lib.hid hdiv
  have KD := Lib.hid k0
  have HB10 := Lib.hid hb1'
  have HB20 := Lib.hid hb2
  clear hb1 hb1' hb2 k0 ee hdiv hs h1
  go_enter Tryz.func147, Tryz.ntmps147
  go_wp2_with fail
  refine (HDIV.out _).mono ?_
  rintro e w1 ⟨rfl, hk⟩
  have hh1 := hk.at HB10.out (fun f => f)
  have hh2 := hk.at HB20.out (fun f => f)
  have K1 := Lib.hid (KD.out.same hk)
  have HKS : Hid (Kept (fun _ => False) w (w1.setCell ⟨w.heap.size + 1, 0, none⟩ (.int .i64 q))) := K1.out.setCell _ _ (by intro h; simp at h; try omega)
  have s1 := heap_set_same hh2 0 (.int .i64 q)
  have s2 : (w1.setCell ⟨w.heap.size + 1, 0, none⟩ (.int .i64 q)).heap[w.heap.size]? = _ := (heap_set_ne (by omega)).trans hh1
  have s3 : (w1.setCell ⟨w.heap.size + 1, 0, none⟩ (.int .i64 q)).cell? ⟨w.heap.size + 1, 0, none⟩ = some (.int .i64 q) := by rw [cell_of s1]; rfl
  have s4 := (cells2' s2).1
  have s5 := frozen_of hh2 0
  obtain ⟨a0, a1⟩ := cells2' hh1
  obtain ⟨g0, g1⟩ := cells2' hh2
  clear hk hh1 hh2 s1 s2
  generalize hY : w1.setCell ⟨w.heap.size + 1, 0, none⟩ (.int .i64 q) = Y at *
  go_wp2_with fail
  go_ret
  first | exact ⟨rfl, K1.out⟩ | exact ⟨rfl, HKS.out⟩
set_option maxRecDepth 100000 in
set_option maxHeartbeats 4000000 in
theorem Cmp_up_gt (n s c q r : Int) (w : World) (hs : 1 ≤ s ∧ s ≤ 1000) (h1 : q < n) (hdiv : ∀ w, Calls Tryz.prog 188 #[.int .i64 c, .int .i32 s] w (DivRes w q r true)) :
    Calls Tryz.prog 147 #[.agg #[.int .i64 n, .int .i32 s], .agg #[.int .i64 c, .int .i32 0]] w (CmpRes w (1)) := by
  have q1 : (s == 0) = false := beqF (by omega)
  have q2 : decide (0 < s) = true := decT (by omega)
  have e1 : wrap32 s = s := by unfold wrap32; omega
  have f1 : (q == n) = false := beqF (by omega)
  have f2 : (n == q) = false := beqF (by omega)
  have f3 : decide (n < q) = false := decF (by omega)
  have hb1 := heap_alloc_new w (.cells #[.int .i64 n, .int .i32 s] 60)
  have hb1' := ((Kept.refl (fun _ => False) (w.alloc (.cells #[.int .i64 n, .int .i32 s] 60))).alloc (.cells #[.int .i64 c, .int .i32 0] 60)).at hb1 (fun f => f)
  have hb2 := heap_alloc_new (w.alloc (.cells #[.int .i64 n, .int .i32 s] 60)) (.cells #[.int .i64 c, .int .i32 0] 60)
  have ee : (w.alloc (.cells #[.int .i64 n, .int .i32 s] 60)).heap.size = w.heap.size + 1 := by simp
  rw [ee] at hb2
  have k0 : Kept (fun _ => False) w ((w.alloc (.cells #[.int .i64 n, .int .i32 s] 60)).alloc (.cells #[.int .i64 c, .int .i32 0] 60)) := ((Kept.refl _ _).alloc _).alloc _
  generalize hW : (w.alloc (.cells #[.int .i64 n, .int .i32 s] 60)).alloc (.cells #[.int .i64 c, .int .i32 0] 60) = W at *
  obtain ⟨a0, a1⟩ := cells2' hb1'
  obtain ⟨g0, g1⟩ := cells2' hb2
  have HDIV := Lib.hid hdiv
  have KD := Lib.hid k0
  have HB10 := Lib.hid hb1'
  have HB20 := Lib.hid hb2
  clear hb1 hb1' hb2 k0 ee hdiv hs h1
  go_enter Tryz.func147, Tryz.ntmps147
  go_wp2_with fail
  refine (HDIV.out _).mono ?_
  rintro e w1 ⟨rfl, hk⟩
  have hh1 := hk.at HB10.out (fun f => f)
  have hh2 := hk.at HB20.out (fun f => f)
  have K1 := Lib.hid (KD.out.same hk)
  have HKS : Hid (Kept (fun _ => False) w (w1.setCell ⟨w.heap.size + 1, 0, none⟩ (.int .i64 q))) := K1.out.setCell _ _ (by intro h; simp at h; try omega)
  have s1 := heap_set_same hh2 0 (.int .i64 q)
  have s2 : (w1.setCell ⟨w.heap.size + 1, 0, none⟩ (.int .i64 q)).heap[w.heap.size]? = _ := (heap_set_ne (by omega)).trans hh1
  have s3 : (w1.setCell ⟨w.heap.size + 1, 0, none⟩ (.int .i64 q)).cell? ⟨w.heap.size + 1, 0, none⟩ = some (.int .i64 q) := by rw [cell_of s1]; rfl
  have s4 := (cells2' s2).1
  have s5 := frozen_of hh2 0
  obtain ⟨a0, a1⟩ := cells2' hh1
  obtain ⟨g0, g1⟩ := cells2' hh2
  clear hk hh1 hh2 s1 s2
  generalize hY : w1.setCell ⟨w.heap.size + 1, 0, none⟩ (.int .i64 q) = Y at *
  go_wp2_with fail
  go_ret
  first | exact ⟨rfl, K1.out⟩ | exact ⟨rfl, HKS.out⟩
set_option maxRecDepth 100000 in
set_option maxHeartbeats 4000000 in
theorem Cmp_dn_zero (n s c q r : Int) (w : World) (hs : -1000 ≤ s ∧ s ≤ -1) (h1 : q = c) (h2 : r = 0) (hdiv : ∀ w, Calls Tryz.prog 188 #[.int .i64 n, .int .i32 (-s)] w (DivRes w q r true)) :
    Calls Tryz.prog 147 #[.agg #[.int .i64 n, .int .i32 s], .agg #[.int .i64 c, .int .i32 0]] w (CmpRes w (0)) := by
  have q1 : (s == 0) = false := beqF (by omega)
  have q2 : decide (0 < s) = false := decF (by omega)
  have e1 : wrap32 (-s) = -s := by unfold wrap32; omega
  have f1 : (q == c) = true := beqT (by omega)
  have f2 : (r == 0) = true := beqT (by omega)
  have hb1 := heap_alloc_new w (.cells #[.int .i64 n, .int .i32 s] 60)
  have hb1' := ((Kept.refl (fun _ => False) (w.alloc (.cells #[.int .i64 n, .int .i32 s] 60))).alloc (.cells #[.int .i64 c, .int .i32 0] 60)).at hb1 (fun f => f)
  have hb2 := heap_alloc_new (w.alloc (.cells #[.int .i64 n, .int .i32 s] 60)) (.cells #[.int .i64 c, .int .i32 0] 60)
  have ee : (w.alloc (.cells #[.int .i64 n, .int .i32 s] 60)).heap.size = w.heap.size + 1 := by simp
  rw [ee] at hb2
  have k0 : Kept (fun _ => False) w ((w.alloc (.cells #[.int .i64 n, .int .i32 s] 60)).alloc (.cells #[.int .i64 c, .int .i32 0] 60)) := ((Kept.refl _ _).alloc _).alloc _
  generalize hW : (w.alloc (.cells #[.int .i64 n, .int .i32 s] 60)).alloc (.cells #[.int .i64 c, .int .i32 0] 60) = W at *
  obtain ⟨a0, a1⟩ := cells2' hb1'
  obtain ⟨g0, g1⟩ := cells2' hb2
  have HDIV := Lib.hid hdiv
  have KD := Lib.hid k0
  have HB10 := Lib.hid hb1'
  have HB20 := Lib.hid hb2
  clear hb1 hb1' hb2 k0 ee hdiv hs h1 h2
  go_enter Tryz.func147, Tryz.ntmps147
  go_wp2_with fail
  refine (HDIV.out _).mono ?_
  rintro e w1 ⟨rfl, hk⟩
  have hh1 := hk.at HB10.out (fun f => f)
  have hh2 := hk.at HB20.out (fun f => f)
  have K1 := Lib.hid (KD.out.same hk)
  have HKS : Hid (Kept (fun _ => False) w (w1.setCell ⟨w.heap.size, 0, none⟩ (.int .i64 q))) := K1.out.setCell _ _ (by intro h; simp at h; try omega)
  have s1 := heap_set_same hh1 0 (.int .i64 q)
  have s2 : (w1.setCell ⟨w.heap.size, 0, none⟩ (.int .i64 q)).heap[w.heap.size + 1]? = _ := (heap_set_ne (by omega)).trans hh2
  have s3 : (w1.setCell ⟨w.heap.size, 0, none⟩ (.int .i64 q)).cell? ⟨w.heap.size, 0, none⟩ = some (.int .i64 q) := by rw [cell_of s1]; rfl
  have s4 := (cells2' s2).1
  have s5 := frozen_of hh1 0
  obtain ⟨a0, a1⟩ := cells2' hh1
  obtain ⟨g0, g1⟩ := cells2' hh2
  clear hk hh1 hh2 s1 s2
  generalize hY : w1.setCell ⟨w.heap.size, 0, none⟩ (.int .i64 q) = Y at *
  go_wp2_with fail
  go_ret
  first | exact ⟨rfl, K1.out⟩ | exact ⟨rfl, HKS.out⟩
set_option maxRecDepth 100000 in
set_option maxHeartbeats 4000000 in
theorem Cmp_dn_pos (n s c q r : Int) (w : World) (hs : -1000 ≤ s ∧ s ≤ -1) (h1 : q = c) (h2 : 0 < r) (hdiv : ∀ w, Calls Tryz.prog 188 #[.int .i64 n, .int .i32 (-s)] w (DivRes w q r true)) :
    Calls Tryz.prog 147 #[.agg #[.int .i64 n, .int .i32 s], .agg #[.int .i64 c, .int .i32 0]] w (CmpRes w (1)) := by
  have q1 : (s == 0) = false := beqF (by omega)
  have q2 : decide (0 < s) = false := decF (by omega)
  have e1 : wrap32 (-s) = -s := by unfold wrap32; omega
  have f1 : (q == c) = true := beqT (by omega)
  have f2 : (r == 0) = false := beqF (by omega)
  have f3 : decide (0 < r) = true := decT (by omega)
  have hb1 := heap_alloc_new w (.cells #[.int .i64 n, .int .i32 s] 60)
  have hb1' := ((Kept.refl (fun _ => False) (w.alloc (.cells #[.int .i64 n, .int .i32 s] 60))).alloc (.cells #[.int .i64 c, .int .i32 0] 60)).at hb1 (fun f => f)
  have hb2 := heap_alloc_new (w.alloc (.cells #[.int .i64 n, .int .i32 s] 60)) (.cells #[.int .i64 c, .int .i32 0] 60)
  have ee : (w.alloc (.cells #[.int .i64 n, .int .i32 s] 60)).heap.size = w.heap.size + 1 := by simp
  rw [ee] at hb2
  have k0 : Kept (fun _ => False) w ((w.alloc (.cells #[.int .i64 n, .int .i32 s] 60)).alloc (.cells #[.int .i64 c, .int .i32 0] 60)) := ((Kept.refl _ _).alloc _).alloc _
  generalize hW : (w.alloc (.cells #[.int .i64 n, .int .i32 s] 60)).alloc (.cells #[.int .i64 c, .int .i32 0] 60) = W at *
  obtain ⟨a0, a1⟩ := cells2' hb1'
  obtain ⟨g0, g1⟩ := cells2' hb2
  have HDIV := Lib.hid hdiv
  have KD := Lib.hid k0
  have HB10 := Lib.hid hb1'
  have HB20 := Lib.hid hb2
  clear hb1 hb1' hb2 k0 ee hdiv hs h1 h2
  go_enter Tryz.func147, Tryz.ntmps147
  go_wp2_with fail
  refine (HDIV.out _).mono ?_
  rintro e w1 ⟨rfl, hk⟩
  have hh1 := hk.at HB10.out (fun f => f)
  have hh2 := hk.at HB20.out (fun f => f)
  have K1 := Lib.hid (KD.out.same hk)
  have HKS : Hid (Kept (fun _ => False) w (w1.setCell ⟨w.heap.size, 0, none⟩ (.int .i64 q))) := K1.out.setCell _ _ (by intro h; simp at h; try omega)
  have s1 := heap_set_same hh1 0 (.int .i64 q)
  have s2 : (w1.setCell ⟨w.heap.size, 0, none⟩ (.int .i64 q)).heap[w.heap.size + 1]? = _ := (heap_set_ne (by omega)).trans hh2
  have s3 : (w1.setCell ⟨w.heap.size, 0, none⟩ (.int .i64 q)).cell? ⟨w.heap.size, 0, none⟩ = some (.int .i64 q) := by rw [cell_of s1]; rfl
  have s4 := (cells2' s2).1
  have s5 := frozen_of hh1 0
  obtain ⟨a0, a1⟩ := cells2' hh1
  obtain ⟨g0, g1⟩ := cells2' hh2
  clear hk hh1 hh2 s1 s2
  generalize hY : w1.setCell ⟨w.heap.size, 0, none⟩ (.int .i64 q) = Y at *
  go_wp2_with fail
  go_ret
  first | exact ⟨rfl, K1.out⟩ | exact ⟨rfl, HKS.out⟩
set_option maxRecDepth 100000 in
set_option maxHeartbeats 4000000 in
theorem Cmp_dn_neg (n s c q r : Int) (w : World) (hs : -1000 ≤ s ∧ s ≤ -1) (h1 : q = c) (h2 : r < 0) (hdiv : ∀ w, Calls Tryz.prog 188 #[.int .i64 n, .int .i32 (-s)] w (DivRes w q r true)) :
    Calls Tryz.prog 147 #[.agg #[.int .i64 n, .int .i32 s], .agg #[.int .i64 c, .int .i32 0]] w (CmpRes w (-1)) := by
  have q1 : (s == 0) = false := beqF (by omega)
  have q2 : decide (0 < s) = false := decF (by omega)
  have e1 : wrap32 (-s) = -s := by unfold wrap32; omega
  have f1 : (q == c) = true := beqT (by omega)
  have f2 : (r == 0) = false := beqF (by omega)
  have f3 : decide (0 < r) = false := decF (by omega)
  have hb1 := heap_alloc_new w (.cells #[.int .i64 n, .int .i32 s] 60)
  have hb1' := ((Kept.refl (fun _ => False) (w.alloc (.cells #[.int .i64 n, .int .i32 s] 60))).alloc (.cells #[.int .i64 c, .int .i32 0] 60)).at hb1 (fun f => f)
  have hb2 := heap_alloc_new (w.alloc (.cells #[.int .i64 n, .int .i32 s] 60)) (.cells #[.int .i64 c, .int .i32 0] 60)
  have ee : (w.alloc (.cells #[.int .i64 n, .int .i32 s] 60)).heap.size = w.heap.size + 1 := by simp
  rw [ee] at hb2
  have k0 : Kept (fun _ => False) w ((w.alloc (.cells #[.int .i64 n, .int .i32 s] 60)).alloc (.cells #[.int .i64 c, .int .i32 0] 60)) := ((Kept.refl _ _).alloc _).alloc _
  generalize hW : (w.alloc (.cells #[.int .i64 n, .int .i32 s] 60)).alloc (.cells #[.int .i64 c, .int .i32 0] 60) = W at *
  obtain ⟨a0, a1⟩ := cells2' hb1'
  obtain ⟨g0, g1⟩ := cells2' hb2
  have HDIV := Lib.hid hdiv
  have KD := Lib.hid k0
  have HB10 := Lib.hid hb1'
  have HB20 := Lib.hid hb2
  clear hb1 hb1' hb2 k0 ee hdiv hs h1 h2
  go_enter Tryz.func147, Tryz.ntmps147
  go_wp2_with fail
  refine (HDIV.out _).mono ?_
  rintro e w1 ⟨rfl, hk⟩
  have hh1 := hk.at HB10.out (fun f => f)
  have hh2 := hk.at HB20.out (fun f => f)
  have K1 := Lib.hid (KD.out.same hk)
  have HKS : Hid (Kept (fun _ => False) w (w1.setCell ⟨w.heap.size, 0, none⟩ (.int .i64 q))) := K1.out.setCell _ _ (by intro h; simp at h; try omega)
  have s1 := heap_set_same hh1 0 (.int .i64 q)
  have s2 : (w1.setCell ⟨w.heap.size, 0, none⟩ (.int .i64 q)).heap[w.heap.size + 1]? = _ := (heap_set_ne (by omega)).trans hh2
  have s3 : (w1.setCell ⟨w.heap.size, 0, none⟩ (.int .i64 q)).cell? ⟨w.heap.size, 0, none⟩ = some (.int .i64 q) := by rw [cell_of s1]; rfl
  have s4 := (cells2' s2).1
  have s5 := frozen_of hh1 0
  obtain ⟨a0, a1⟩ := cells2' hh1
  obtain ⟨g0, g1⟩ := cells2' hh2
  clear hk hh1 hh2 s1 s2
  generalize hY : w1.setCell ⟨w.heap.size, 0, none⟩ (.int .i64 q) = Y at *
  go_wp2_with fail
  go_ret
  first | exact ⟨rfl, K1.out⟩ | exact ⟨rfl, HKS.out⟩
set_option maxRecDepth 100000 in
set_option maxHeartbeats 4000000 in
theorem Cmp_dn_lt (n s c q r : Int) (w : World) (hs : -1000 ≤ s ∧ s ≤ -1) (h1 : q < c) (hdiv : ∀ w, Calls Tryz.prog 188 #[.int .i64 n, .int .i32 (-s)] w (DivRes w q r true)) :
    Calls Tryz.prog 147 #[.agg #[.int .i64 n, .int .i32 s], .agg #[.int .i64 c, .int .i32 0]] w (CmpRes w (-1)) := by
  have q1 : (s == 0) = false := beqF (by omega)
  have q2 : decide (0 < s) = false := decF (by omega)
  have e1 : wrap32 (-s) = -s := by unfold wrap32; omega
  have f1 : (q == c) = false := beqF (by omega)
  have f3 : decide (q < c) = true := decT (by omega)
  have hb1 := heap_alloc_new w (.cells #[.int .i64 n, .int .i32 s] 60)
  have hb1' := ((Kept.refl (fun _ => False) (w.alloc (.cells #[.int .i64 n, .int .i32 s] 60))).alloc (.cells #[.int .i64 c, .int .i32 0] 60)).at hb1 (fun f => f)
  have hb2 := heap_alloc_new (w.alloc (.cells #[.int .i64 n, .int .i32 s] 60)) (.cells #[.int .i64 c, .int .i32 0] 60)
  have ee : (w.alloc (.cells #[.int .i64 n, .int .i32 s] 60)).heap.size = w.heap.size + 1 := by simp
  rw [ee] at hb2
  have k0 : Kept (fun _ => False) w ((w.alloc (.cells #[.int .i64 n, .int .i32 s] 60)).alloc (.cells #[.int .i64 c, .int .i32 0] 60)) := ((Kept.refl _ _).alloc _).alloc _
  generalize hW : (w.alloc (.cells #[.int .i64 n, .int .i32 s] 60)).alloc (.cells #[.int .i64 c, .int .i32 0] 60) = W at *
  obtain ⟨a0, a1⟩ := cells2' hb1'
  obtain ⟨g0, g1⟩ := cells2' hb2
  have HDIV := Lib.hid hdiv
  have KD := Lib.hid k0
  have HB10 := Lib.hid hb1'
  have HB20 := Lib.hid hb2
  clear hb1 hb1' hb2 k0 ee hdiv hs h1
  go_enter Tryz.func147, Tryz.ntmps147
  go_wp2_with fail
  refine (HDIV.out _).mono ?_
  rintro e w1 ⟨rfl, hk⟩
  have hh1 := hk.at HB10.out (fun f => f)
  have hh2 := hk.at HB20.out (fun f => f)
  have K1 := Lib.hid (KD.out.same hk)
  have HKS : Hid (Kept (fun _ => False) w (w1.setCell ⟨w.heap.size, 0, none⟩ (.int .i64 q))) := K1.out.setCell _ _ (by intro h; simp at h; try omega)
  have s1 := heap_set_same hh1 0 (.int .i64 q)
  have s2 : (w1.setCell ⟨w.heap.size, 0, none⟩ (.int .i64 q)).heap[w.heap.size + 1]? = _ := (heap_set_ne (by omega)).trans hh2
  have s3 : (w1.setCell ⟨w.heap.size, 0, none⟩ (.int .i64 q)).cell? ⟨w.heap.size, 0, none⟩ = some (.int .i64 q) := by rw [cell_of s1]; rfl
  have s4 := (cells2' s2).1
  have s5 := frozen_of hh1 0
  obtain ⟨a0, a1⟩ := cells2' hh1
  obtain ⟨g0, g1⟩ := cells2' hh2
  clear hk hh1 hh2 s1 s2
  generalize hY : w1.setCell ⟨w.heap.size, 0, none⟩ (.int .i64 q) = Y at *
  go_wp2_with fail
  go_ret
  first | exact ⟨rfl, K1.out⟩ | exact ⟨rfl, HKS.out⟩
set_option maxRecDepth 100000 in
set_option maxHeartbeats 4000000 in
theorem Cmp_dn_gt (n s c q r : Int) (w : World) (hs : -1000 ≤ s ∧ s ≤ -1) (h1 : c < q) (hdiv : ∀ w, Calls Tryz.prog 188 #[.int .i64 n, .int .i32 (-s)] w (DivRes w q r true)) :
    Calls Tryz.prog 147 #[.agg #[.int .i64 n, .int .i32 s], .agg #[.int .i64 c, .int .i32 0]] w (CmpRes w (1)) := by
  have q1 : (s == 0) = false := beqF (by omega)
  have q2 : decide (0 < s) = false := decF (by omega)
  have e1 : wrap32 (-s) = -s := by unfold wrap32; omega
  have f1 : (q == c) = false := beqF (by omega)
  have f3 : decide (q < c) = false := decF (by omega)
  have hb1 := heap_alloc_new w (.cells #[.int .i64 n, .int .i32 s] 60)
  have hb1' := ((Kept.refl (fun _ => False) (w.alloc (.cells #[.int .i64 n, .int .i32 s] 60))).alloc (.cells #[.int .i64 c, .int .i32 0] 60)).at hb1 (fun f => f)
  have hb2 := heap_alloc_new (w.alloc (.cells #[.int .i64 n, .int .i32 s] 60)) (.cells #[.int .i64 c, .int .i32 0] 60)
  have ee : (w.alloc (.cells #[.int .i64 n, .int .i32 s] 60)).heap.size = w.heap.size + 1 := by simp
  rw [ee] at hb2
  have k0 : Kept (fun _ => False) w ((w.alloc (.cells #[.int .i64 n, .int .i32 s] 60)).alloc (.cells #[.int .i64 c, .int .i32 0] 60)) := ((Kept.refl _ _).alloc _).alloc _
  generalize hW : (w.alloc (.cells #[.int .i64 n, .int .i32 s] 60)).alloc (.cells #[.int .i64 c, .int .i32 0] 60) = W at *
  obtain ⟨a0, a1⟩ := cells2' hb1'
  obtain ⟨g0, g1⟩ := cells2' hb2
  have HDIV := Lib.hid hdiv
  have KD := Lib.hid k0
  have HB10 := Lib.hid hb1'
  have HB20 := Lib.hid hb2
  clear hb1 hb1' hb2 k0 ee hdiv hs h1
  go_enter Tryz.func147, Tryz.ntmps147
  go_wp2_with fail
  refine (HDIV.out _).mono ?_
  rintro e w1 ⟨rfl, hk⟩
  have hh1 := hk.at HB10.out (fun f => f)
  have hh2 := hk.at HB20.out (fun f => f)
  have K1 := Lib.hid (KD.out.same hk)
  have HKS : Hid (Kept (fun _ => False) w (w1.setCell ⟨w.heap.size, 0, none⟩ (.int .i64 q))) := K1.out.setCell _ _ (by intro h; simp at h; try omega)
  have s1 := heap_set_same hh1 0 (.int .i64 q)
  have s2 : (w1.setCell ⟨w.heap.size, 0, none⟩ (.int .i64 q)).heap[w.heap.size + 1]? = _ := (heap_set_ne (by omega)).trans hh2
  have s3 : (w1.setCell ⟨w.heap.size, 0, none⟩ (.int .i64 q)).cell? ⟨w.heap.size, 0, none⟩ = some (.int .i64 q) := by rw [cell_of s1]; rfl
  have s4 := (cells2' s2).1
  have s5 := frozen_of hh1 0
  obtain ⟨a0, a1⟩ := cells2' hh1
  obtain ⟨g0, g1⟩ := cells2' hh2
  clear hk hh1 hh2 s1 s2
  generalize hY : w1.setCell ⟨w.heap.size, 0, none⟩ (.int .i64 q) = Y at *
  go_wp2_with fail
  go_ret
  first | exact ⟨rfl, K1.out⟩ | exact ⟨rfl, HKS.out⟩
set_option maxRecDepth 100000 in
set_option maxHeartbeats 4000000 in
theorem Cmp_zero_eq (n s c : Int) (w : World) (hs : s = 0) (h1 : n = c) :
    Calls Tryz.prog 147 #[.agg #[.int .i64 n, .int .i32 s], .agg #[.int .i64 c, .int .i32 0]] w (CmpRes w (0)) := by
  have f1 : (n == c) = true := beqT (by omega)
  have q1 : (s == 0) = true := beqT hs
  have hb1 := heap_alloc_new w (.cells #[.int .i64 n, .int .i32 s] 60)
  have hb1' := ((Kept.refl (fun _ => False) (w.alloc (.cells #[.int .i64 n, .int .i32 s] 60))).alloc (.cells #[.int .i64 c, .int .i32 0] 60)).at hb1 (fun f => f)
  have hb2 := heap_alloc_new (w.alloc (.cells #[.int .i64 n, .int .i32 s] 60)) (.cells #[.int .i64 c, .int .i32 0] 60)
  have ee : (w.alloc (.cells #[.int .i64 n, .int .i32 s] 60)).heap.size = w.heap.size + 1 := by simp
  rw [ee] at hb2
  have k0 : Kept (fun _ => False) w ((w.alloc (.cells #[.int .i64 n, .int .i32 s] 60)).alloc (.cells #[.int .i64 c, .int .i32 0] 60)) := ((Kept.refl _ _).alloc _).alloc _
  generalize hW : (w.alloc (.cells #[.int .i64 n, .int .i32 s] 60)).alloc (.cells #[.int .i64 c, .int .i32 0] 60) = W at *
  obtain ⟨a0, a1⟩ := cells2' hb1'
  obtain ⟨g0, g1⟩ := cells2' hb2
  have KD := Lib.hid k0
  clear hb1 hb1' hb2 k0 ee hs h1
  go_enter Tryz.func147, Tryz.ntmps147
  go_wp2_with fail
  go_ret
  exact ⟨rfl, KD.out⟩
set_option maxRecDepth 100000 in
set_option maxHeartbeats 4000000 in
theorem Cmp_zero_lt (n s c : Int) (w : World) (hs : s = 0) (h1 : n < c) :
    Calls Tryz.prog 147 #[.agg #[.int .i64 n, .int .i32 s], .agg #[.int .i64 c, .int .i32 0]] w (CmpRes w (-1)) := by
  have f1 : (n == c) = false := beqF (by omega)
  have f2 : decide (n < c) = true := decT (by omega)
  have q1 : (s == 0) = true := beqT hs
  have hb1 := heap_alloc_new w (.cells #[.int .i64 n, .int .i32 s] 60)
  have hb1' := ((Kept.refl (fun _ => False) (w.alloc (.cells #[.int .i64 n, .int .i32 s] 60))).alloc (.cells #[.int .i64 c, .int .i32 0] 60)).at hb1 (fun f => f)
  have hb2 := heap_alloc_new (w.alloc (.cells #[.int .i64 n, .int .i32 s] 60)) (.cells #[.int .i64 c, .int .i32 0] 60)
  have ee : (w.alloc (.cells #[.int .i64 n, .int .i32 s] 60)).heap.size = w.heap.size + 1 := by simp
  rw [ee] at hb2
  have k0 : Kept (fun _ => False) w ((w.alloc (.cells #[.int .i64 n, .int .i32 s] 60)).alloc (.cells #[.int .i64 c, .int .i32 0] 60)) := ((Kept.refl _ _).alloc _).alloc _
  generalize hW : (w.alloc (.cells #[.int .i64 n, .int .i32 s] 60)).alloc (.cells #[.int .i64 c, .int .i32 0] 60) = W at *
  obtain ⟨a0, a1⟩ := cells2' hb1'
  obtain ⟨g0, g1⟩ := cells2' hb2
  have KD := Lib.hid k0
  clear hb1 hb1' hb2 k0 ee hs h1
  go_enter Tryz.func147, Tryz.ntmps147
  go_wp2_with fail
  go_ret
  exact ⟨rfl, KD.out⟩
set_option maxRecDepth 100000 in
set_option maxHeartbeats 4000000 in
theorem Cmp_zero_gt (n s c : Int) (w : World) (hs : s = 0) (h1 : c < n) :
    Calls Tryz.prog 147 #[.agg #[.int .i64 n, .int .i32 s], .agg #[.int .i64 c, .int .i32 0]] w (CmpRes w (1)) := by
  have f1 : (n == c) = false := beqF (by omega)
  have f2 : decide (n < c) = false := decF (by omega)
  have q1 : (s == 0) = true := beqT hs
  have hb1 := heap_alloc_new w (.cells #[.int .i64 n, .int .i32 s] 60)
  have hb1' := ((Kept.refl (fun _ => False) (w.alloc (.cells #[.int .i64 n, .int .i32 s] 60))).alloc (.cells #[.int .i64 c, .int .i32 0] 60)).at hb1 (fun f => f)
  have hb2 := heap_alloc_new (w.alloc (.cells #[.int .i64 n, .int .i32 s] 60)) (.cells #[.int .i64 c, .int .i32 0] 60)
  have ee : (w.alloc (.cells #[.int .i64 n, .int .i32 s] 60)).heap.size = w.heap.size + 1 := by simp
  rw [ee] at hb2
  have k0 : Kept (fun _ => False) w ((w.alloc (.cells #[.int .i64 n, .int .i32 s] 60)).alloc (.cells #[.int .i64 c, .int .i32 0] 60)) := ((Kept.refl _ _).alloc _).alloc _
  generalize hW : (w.alloc (.cells #[.int .i64 n, .int .i32 s] 60)).alloc (.cells #[.int .i64 c, .int .i32 0] 60) = W at *
  obtain ⟨a0, a1⟩ := cells2' hb1'
  obtain ⟨g0, g1⟩ := cells2' hb2
  have KD := Lib.hid k0
  clear hb1 hb1' hb2 k0 ee hs h1
  go_enter Tryz.func147, Tryz.ntmps147
  go_wp2_with fail
  go_ret
  exact ⟨rfl, KD.out⟩
theorem Cmp_any (n s c : Int) (w : World) (hn : -9223372036854775808 ≤ n ∧ n ≤ 9223372036854775807) (hc : c.natAbs ≤ 1000000) (hc0 : c ≠ 0) (hs : -39 ≤ s ∧ s ≤ 19) :
    Calls Tryz.prog 147 #[.agg #[.int .i64 n, .int .i32 s], .agg #[.int .i64 c, .int .i32 0]] w (CmpRes w (if 0 ≤ s then cmpZ (n * ((10 ^ s.toNat : Nat) : Int)) c else cmpZ n (c * ((10 ^ (-s).toNat : Nat) : Int)))) := by
  by_cases h0 : s = 0
  · have e : (10 ^ s.toNat : Nat) = 1 := by subst h0; rfl
    rw [if_pos (by omega), e, show (((1 : Nat) : Int)) = 1 from rfl, Int.mul_one]
    rcases Int.lt_trichotomy n c with h | h | h
    · rw [cmpZ_lt h]; exact Cmp_zero_lt n s c w h0 h
    · rw [h, cmpZ_self, ← h]
      have := Cmp_zero_eq n s c w h0 h
      rw [← h] at this
      exact this
    · rw [cmpZ_gt h]; exact Cmp_zero_gt n s c w h0 h
  by_cases hp : 0 < s
  · rw [if_pos (by omega)]
    obtain ⟨k, hk⟩ : ∃ k : Nat, s = (k : Int) := ⟨s.toNat, by omega⟩
    have ek : s.toNat = k := by omega
    rw [ek]
    by_cases hb : 18 ≤ s
    · refine Cmp_up n s c _ w hn (by omega) (by omega) hb ?_ ?_
      · intro w' p q b b' h1 h2 hne
        exact Dec_Cmp_lt p q k (10 ^ k) rfl n c (-s) 0 b b' w' h1 h2 (by omega) (by omega) (by omega) (by omega) (by omega) (dig_word (by unfold B64; omega))
      · intro w'
        rw [hk]
        exact divScale_big c k (by omega) (by omega) w'
    · obtain ⟨p1, p2, p3⟩ := tdiv_parts c (10 ^ k) (Nat.pow_pos (by omega))
      have hd : ∀ w, Calls Tryz.prog 188 #[.int .i64 c, .int .i32 s] w (DivRes w (c.tdiv ((10 ^ k : Nat) : Int)) (c.tmod ((10 ^ k : Nat) : Int)) true) := fun w => by
        rw [hk]; exact divScale_any c k (10 ^ k) rfl (by omega) (by omega) (by omega) w
      generalize ((10 ^ k : Nat) : Int) = P at *
      generalize c.tdiv P = q at *
      generalize c.tmod P = r at *
      obtain ⟨x1, x2, x3, x4, x5⟩ := cmp_div (n := n) p1 p2 p3
      rcases Int.lt_trichotomy n q with h | h | h
      · rw [x4 h]; exact Cmp_up_lt n s c q r w (by omega) h hd
      · rcases Int.lt_trichotomy r 0 with g | g | g
        · rw [x3 h g]; exact Cmp_up_neg n s c q r w (by omega) h g hd
        · rw [x1 h g]; exact Cmp_up_zero n s c q r w (by omega) h g hd
        · rw [x2 h g]; exact Cmp_up_pos n s c q r w (by omega) h g hd
      · rw [x5 h]; exact Cmp_up_gt n s c q r w (by omega) h hd
  · rw [if_neg (by omega)]
    obtain ⟨k, hk⟩ : ∃ k : Nat, -s = (k : Int) := ⟨(-s).toNat, by omega⟩
    have ek : (-s).toNat = k := by omega
    rw [ek]
    by_cases hb : s ≤ -18
    · refine Cmp_dn n s c _ w hn (by omega) (by omega) hb ?_ ?_
      · intro w' p q b b' h1 h2 hne
        exact Dec_Cmp_gtw p q k (10 ^ k) rfl n c (-s) 0 b b' w' h1 h2 (by omega) (by omega) (by omega) (by omega) (by omega) (by unfold B64; omega) hc0
      · intro w'
        rw [hk]
        exact divScale_big n k (by omega) (by omega) w'
    · obtain ⟨p1, p2, p3⟩ := tdiv_parts n (10 ^ k) (Nat.pow_pos (by omega))
      have hd : ∀ w, Calls Tryz.prog 188 #[.int .i64 n, .int .i32 (-s)] w (DivRes w (n.tdiv ((10 ^ k : Nat) : Int)) (n.tmod ((10 ^ k : Nat) : Int)) true) := fun w => by
        rw [hk]; exact divScale_any n k (10 ^ k) rfl (by omega) (by omega) hn w
      generalize ((10 ^ k : Nat) : Int) = P at *
      generalize n.tdiv P = q at *
      generalize n.tmod P = r at *
      obtain ⟨x1, x2, x3, x4, x5⟩ := cmp_div (n := c) p1 p2 p3
      rw [cmpZ_swap n]
      rcases Int.lt_trichotomy q c with h | h | h
      · rw [x5 h]; exact Cmp_dn_lt n s c q r w (by omega) h hd
      · rcases Int.lt_trichotomy r 0 with g | g | g
        · rw [x3 h.symm g]; exact Cmp_dn_neg n s c q r w (by omega) h g hd
        · rw [x1 h.symm g]; exact Cmp_dn_zero n s c q r w (by omega) h g hd
        · rw [x2 h.symm g]; exact Cmp_dn_pos n s c q r w (by omega) h g hd
      · rw [x4 h]; exact Cmp_dn_gt n s c q r w (by omega) h hd
end Go.Proofs.YtjebnpkebccffaaGreatDoor
