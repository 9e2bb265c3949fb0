import Derived.Test.YtjebnpkebccffaaGreatDoorKDivm
set_option linter.unusedSimpArgs false
set_option linter.unusedVariables false
set_option linter.unusedSectionVars false
namespace Go.Proofs.YtjebnpkebccffaaGreatDoor
open Go.RowKit
def DecAt (w : World) (p : Nat) (n : Int) (sc : Int) (b : Option Nat) : Prop := IntAt w p n b [.int .i32 sc] 112
def DecRes (w : World) (z : Nat) (b : Option Nat) (n : Int) (sc : Int) (e : Ending) (w' : World) : Prop := IntRes w z b n [.int .i32 sc] 112 e w'
theorem dec_cell {w : World} {p : Nat} {n sc : Int} {b : Option Nat} (h : DecAt w p n sc b) : w.cell? ⟨p, 2, none⟩ = some (.int .i32 sc) ∧ w.frozen? ⟨p, 2, none⟩ = false := by
  obtain ⟨v, h1, _⟩ := h
  exact ⟨by rw [cell_of h1]; rfl, frozen_of h1 2⟩
theorem dec_put {w : World} {p : Nat} {n sc sc' : Int} {b : Option Nat} (h : DecAt w p n sc b) : DecAt (w.setCell ⟨p, 2, none⟩ (.int .i32 sc')) p n sc' b := by
  obtain ⟨v, h1, h2, h3⟩ := h
  refine ⟨v, ?_, h2.move (fun k hk => heap_set_ne (by intro e; subst e; exact h3 hk)), h3⟩
  rw [heap_set_same h1 2]
  simp
set_option maxHeartbeats 400000 in
theorem Dec_UnscaledBig (p : Nat) (n sc : Int) (b : Option Nat) (w : World) (h : DecAt w p n sc b) : Calls Tryz.prog 60 #[.pointer (some ⟨p, 0, none⟩)] w fun e w' => e = .returned (.pointer (some ⟨p, 0, none⟩)) ∧ w = w' := by
  obtain ⟨v, h1, _⟩ := h
  obtain ⟨c0, c1, _, _⟩ := int_cells h1
  clear h1
  go_enter Tryz.func60, Tryz.ntmps60
  go_wp2_with fail
  go_ret
  exact ⟨rfl, rfl⟩
set_option maxHeartbeats 400000 in
theorem Dec_Scale (p : Nat) (n sc : Int) (b : Option Nat) (w : World) (h : DecAt w p n sc b) : Calls Tryz.prog 56 #[.pointer (some ⟨p, 0, none⟩)] w fun e w' => e = .returned (.int .i32 sc) ∧ w = w' := by
  obtain ⟨c2, f2⟩ := dec_cell h
  clear h
  go_enter Tryz.func56, Tryz.ntmps56
  go_wp2_with fail
  go_ret
  exact ⟨rfl, rfl⟩
set_option maxHeartbeats 400000 in
theorem Dec_SetScale (p : Nat) (n sc sc' : Int) (b : Option Nat) (w : World) (h : DecAt w p n sc b) : Calls Tryz.prog 55 #[.pointer (some ⟨p, 0, none⟩), .int .i32 sc'] w fun e w' => e = .returned (.pointer (some ⟨p, 0, none⟩)) ∧ DecAt w' p n sc' b ∧ Kept (fun k => k = p) w w' := by
  obtain ⟨c2, f2⟩ := dec_cell h
  have H := Lib.hid h
  clear h
  go_enter Tryz.func55, Tryz.ntmps55
  go_wp2_with fail
  go_ret
  exact ⟨rfl, dec_put H.out, (Kept.refl (fun k => k = p) w).setCell ⟨p, 2, none⟩ _ (fun _ => rfl)⟩
set_option maxHeartbeats 400000 in
theorem Dec_Sign (p : Nat) (n sc : Int) (b : Option Nat) (w : World) (h : DecAt w p n sc b) : Calls Tryz.prog 63 #[.pointer (some ⟨p, 0, none⟩)] w fun e w' => e = .returned (.int .i64 (sgn n)) ∧ w = w' := by
  have H := Lib.hid h
  clear h
  go_enter Tryz.func63, Tryz.ntmps63
  go_wp2_with fail
  refine (Dec_UnscaledBig p n sc b w H.out).mono ?_
  rintro e w1 ⟨rfl, rfl⟩
  go_wp2_with fail
  refine (Int_Sign p n b _ 112 w H.out).mono ?_
  rintro e w1 ⟨rfl, rfl⟩
  go_wp2_with fail
  go_ret
  exact ⟨rfl, rfl⟩
def NewD (w : World) (n sc : Int) (e : Ending) (w' : World) : Prop :=
  ∃ p b, e = .returned (.pointer (some ⟨p, 0, none⟩)) ∧ w.heap.size ≤ p ∧ DecAt w' p n sc b ∧ Kept (fun _ => False) w w' ∧ (∀ k, b = some k → w.heap.size ≤ k)
def zDec : Obj := .cells #[.bool false, .slice none 0 0, .int .i32 0] 112
theorem zDec_at (w : World) : DecAt (w.alloc zDec) w.heap.size 0 0 none :=
  ⟨.slice none 0 0, heap_alloc_new _ _, ⟨rfl, rfl⟩, by simp⟩
set_option maxHeartbeats 400000 in
theorem Dec_SetUnscaled (p : Nat) (n m sc : Int) (b : Option Nat) (w : World) (h : DecAt w p n sc b) (hm : m.natAbs ≤ 9223372036854775807) : Calls Tryz.prog 109 #[.pointer (some ⟨p, 0, none⟩), .int .i64 m] w (DecRes w p b m sc) := by
  obtain ⟨v, h1, h2⟩ := h
  obtain ⟨c0, c1, _, _⟩ := int_cells h1
  have HC : Hid (Calls Tryz.prog 102 #[.pointer (some ⟨p, 0, none⟩), .int .i64 m] w (IntRes w p b m [.int .i32 sc] 112)) := by
    by_cases hlt : m < 0
    · obtain ⟨k, rfl⟩ : ∃ k : Nat, m = -(k : Int) := ⟨m.natAbs, by omega⟩
      exact Int_SetInt64_neg p k n b _ 112 w ⟨v, h1, h2⟩ (by omega) (by omega)
    · obtain ⟨k, rfl⟩ : ∃ k : Nat, m = (k : Int) := ⟨m.natAbs, by omega⟩
      exact Int_SetInt64_pos p k n b _ 112 w ⟨v, h1, h2⟩ (by omega)
  clear h1 h2
  go_enter Tryz.func109, Tryz.ntmps109
  go_wp2_with fail
  refine HC.out.mono ?_
  rintro e w1 ⟨rfl, h⟩
  have H := Lib.hid h
  clear h
  go_wp2_with fail
  go_ret
  exact ⟨rfl, H.out⟩
set_option maxHeartbeats 400000 in
theorem NewDec_any (n sc : Int) (w : World) (hn : n.natAbs ≤ 9223372036854775807) : Calls Tryz.prog 71 #[.int .i64 n, .int .i32 sc] w (NewD w n sc) := by
  go_enter Tryz.func71, Tryz.ntmps71
  go_wp2_with fail
  refine (Dec_SetUnscaled w.heap.size 0 n 0 none (w.alloc zDec) (zDec_at w) hn).mono ?_
  rintro e w2 ⟨rfl, b', h1, h2, h3⟩
  have hk : Kept (fun _ => False) w w2 := ((Kept.refl (fun _ => False) w).alloc zDec).trans h2 (fun _ _ f => f) (fun i hi f => by
    rcases f with f | f
    · omega
    · cases f)
  have hb : ∀ k, b' = some k → w.heap.size ≤ k := by
    intro k hk'
    rcases h3 with h3 | ⟨j, hj, hjs⟩
    · rw [h3] at hk'; cases hk'
    · rw [hj] at hk'; injection hk' with hk'; simp at hjs; omega
  have H1 := Lib.hid h1
  have HK := Lib.hid hk
  have HB := Lib.hid hb
  clear h1 h2 h3 hk hb
  go_wp2_with fail
  refine (Dec_SetScale w.heap.size n 0 sc b' w2 H1.out).mono ?_
  rintro e w3 ⟨rfl, h1, h2⟩
  have HF : Hid (NewD w n sc (.returned (.pointer (some ⟨w.heap.size, 0, none⟩))) w3) := ⟨w.heap.size, b', rfl, Nat.le_refl _, h1, HK.out.trans h2 (fun _ _ f => f) (fun i hi f => by omega), HB.out⟩
  clear h1 h2
  go_wp2_with fail
  go_ret
  exact HF.out
end Go.Proofs.YtjebnpkebccffaaGreatDoor
namespace Go.Proofs.YtjebnpkebccffaaGreatDoor
open Go.RowKit
theorem ptr_int_nsame (a : Addr) (w : World) : (binOp .neq 117 (.pointer (some a)) (.pointer (some a))).run Tryz.prog w = .ok (.bool false) w := by
  obtain ⟨j, hte, hzz⟩ := Option.map_eq_some_iff.1 Tryz.info109
  have h : ∀ d : Nat, (Op.equalIn (d + 1) 117 (.pointer (some a)) (.pointer (some a))).run Tryz.prog w = .ok true w := fun d => by
    simp [Op.equalIn, run_underlying Tryz.underlying117, sizeOf, typeInfo, hte, run_sameAddr_same]
  simp only [binOp]
  simp [Op.equal, Op.maxDepth, h 9999]
set_option maxHeartbeats 400000 in
theorem Int_Set_self (z : Nat) (w : World) : Calls Tryz.prog 97 #[.pointer (some ⟨z, 0, none⟩), .pointer (some ⟨z, 0, none⟩)] w fun e w' => e = .returned (.pointer (some ⟨z, 0, none⟩)) ∧ w = w' := by
  have h := fun a w => ptr_int_nsame a w
  go_enter Tryz.func97, Tryz.ntmps97
  go_wp2_with fail
  go_ret
  exact ⟨rfl, rfl⟩
set_option maxHeartbeats 400000 in
theorem Dec_SetUnscaledBig (p x : Nat) (np n sc : Int) (bp bx : Option Nat) (rx : List Value) (Tx : TypeId) (w : World) (hp : DecAt w p np sc bp) (hx : IntAt w x n bx rx Tx) (hne : p ≠ x) (hb : bp ≠ some x) (hn : Sm n.natAbs) :
    Calls Tryz.prog 61 #[.pointer (some ⟨p, 0, none⟩), .pointer (some ⟨x, 0, none⟩)] w (DecRes w p bp n sc) := by
  have HC := Lib.hid (Int_Set p x np n bp bx _ rx 112 Tx w hp hx hne hb hn)
  obtain ⟨v, h1, h2⟩ := hp
  obtain ⟨c0, c1, _, _⟩ := int_cells h1
  clear h1 h2 hx
  go_enter Tryz.func61, Tryz.ntmps61
  go_wp2_with fail
  refine HC.out.mono ?_
  rintro e w1 ⟨rfl, h⟩
  have H := Lib.hid h
  clear h
  go_wp2_with fail
  go_ret
  exact ⟨rfl, H.out⟩
set_option maxHeartbeats 400000 in
theorem Dec_SetUnscaledBig_self (p : Nat) (n sc : Int) (b : Option Nat) (w : World) (hp : DecAt w p n sc b) :
    Calls Tryz.prog 61 #[.pointer (some ⟨p, 0, none⟩), .pointer (some ⟨p, 0, none⟩)] w fun e w' => e = .returned (.pointer (some ⟨p, 0, none⟩)) ∧ w = w' := by
  obtain ⟨v, h1, h2⟩ := hp
  obtain ⟨c0, c1, _, _⟩ := int_cells h1
  clear h1 h2
  go_enter Tryz.func61, Tryz.ntmps61
  go_wp2_with fail
  refine (Int_Set_self p w).mono ?_
  rintro e w1 ⟨rfl, rfl⟩
  go_wp2_with fail
  go_ret
  exact ⟨rfl, rfl⟩
set_option maxHeartbeats 400000 in
theorem NewDecBig_any (x : Nat) (n sc : Int) (bx : Option Nat) (rx : List Value) (Tx : TypeId) (w : World) (hx : IntAt w x n bx rx Tx) (hn : Sm n.natAbs) : Calls Tryz.prog 186 #[.pointer (some ⟨x, 0, none⟩), .int .i32 sc] w (NewD w n sc) := by
  have HX := Lib.hid hx
  have HN := Lib.hid hn
  clear hx hn
  go_enter Tryz.func186, Tryz.ntmps186
  go_wp2_with fail
  refine (Dec_SetUnscaledBig w.heap.size x 0 n 0 none bx rx Tx (w.alloc zDec) (zDec_at w) (HX.out.old ((Kept.refl _ _).alloc _)) (by have := HX.out.lt; omega) (by simp) HN.out).mono ?_
  rintro e w2 ⟨rfl, b', h1, h2, h3⟩
  have hk : Kept (fun _ => False) w w2 := ((Kept.refl (fun _ => False) w).alloc zDec).trans h2 (fun _ _ f => f) (fun i hi f => by
    rcases f with f | f
    · omega
    · cases f)
  have hb : ∀ k, b' = some k → w.heap.size ≤ k := by
    intro k hk'
    rcases h3 with h3 | ⟨j, hj, hjs⟩
    · rw [h3] at hk'; cases hk'
    · rw [hj] at hk'; injection hk' with hk'; simp at hjs; omega
  have H1 := Lib.hid h1
  have HK := Lib.hid hk
  have HB := Lib.hid hb
  clear h1 h2 h3 hk hb
  go_wp2_with fail
  refine (Dec_SetScale w.heap.size n 0 sc b' w2 H1.out).mono ?_
  rintro e w3 ⟨rfl, h1, h2⟩
  have HF : Hid (NewD w n sc (.returned (.pointer (some ⟨w.heap.size, 0, none⟩))) w3) := ⟨w.heap.size, b', rfl, Nat.le_refl _, h1, HK.out.trans h2 (fun _ _ f => f) (fun i hi f => by omega), HB.out⟩
  clear h1 h2
  go_wp2_with fail
  go_ret
  exact HF.out
theorem Int_Mul_word (z x y : Nat) (nz n m : Int) (bz bx by_ : Option Nat) (rz rx ry : List Value) (Tz Tx Ty : TypeId) (w : World) (hz : IntAt w z nz bz rz Tz) (hx : IntAt w x n bx rx Tx) (hy : IntAt w y m by_ ry Ty)
    (hxy : x ≠ y) (hzx : z = x ∨ (z ≠ x ∧ bz ≠ some x)) (hzy : z ≠ y) (hby : bz ≠ some y) (hm0 : m ≠ 0) (hm : m.natAbs < B64) (hn : Sm n.natAbs) :
    Calls Tryz.prog 62 #[.pointer (some ⟨z, 0, none⟩), .pointer (some ⟨x, 0, none⟩), .pointer (some ⟨y, 0, none⟩)] w (IntRes w z bz (n * m) rz Tz) :=
  Int_Mul_of z x y bz (n * m) rz Tz w (Int_mul_of none z x y nz n m bz bx by_ rz rx ry Tz Tx Ty w hz hx hy hxy hzx hzy hby
    (fun W vz vx vy h1 h2 h3 => mul_word none vz vx vy bz bx by_ n.natAbs m.natAbs W h1.buf h2 h3 (by omega) hm hn))
theorem sm_mul {a b : Nat} (ha : (dig a).length ≤ 50000) (hb : b < B64) : Sm (a * b) := by
  refine Sm.of ((dig a).length + 1) ?_ (by omega)
  rw [Nat.pow_succ]
  exact Nat.mul_lt_mul'' (dig_len_lt a) hb
theorem pow10_word {k : Nat} (h : k < 20) : 10 ^ k < B64 := by
  have h1 : (10 : Nat) ^ k ≤ 10 ^ 19 := Nat.pow_le_pow_right (by omega) (by omega)
  have h2 : (10 : Nat) ^ 19 < B64 := by unfold B64; decide
  omega
set_option maxHeartbeats 1000000 in
theorem Dec_rescale_up (p k M : Nat) (hM : 10 ^ k = M) (n sc sc' : Int) (b : Option Nat) (w : World) (hp : DecAt w p n sc b) (hk1 : 1 ≤ k) (hk : k < 20) (hsc : sc' - sc = (k : Int)) (hb1 : -2000000000 ≤ sc) (hb2 : sc' ≤ 2000000000) (hn : (dig n.natAbs).length ≤ 50000) :
    Calls Tryz.prog 146 #[.pointer (some ⟨p, 0, none⟩), .int .i32 sc'] w (NewD w (n * (M : Int)) sc') := by
  have hM0 : M ≠ 0 := by have := Nat.pow_pos (n := k) (show 0 < 10 by omega); omega
  have hMw : M < B64 := by have := pow10_word hk; omega
  have HM := Lib.hid hM
  clear hM
  have HP := Lib.hid hp
  have HN := Lib.hid hn
  have e1 : IntKind.i32.wrap (sc' - sc) = (k : Int) := by rw [hsc, IntKind.wrap_i32]; omega
  have g1 : decide ((k : Int) < 0) = false := decF (by omega)
  have g2 : decide ((0 : Int) < (k : Int)) = true := decT (by omega)
  clear hp hn
  go_enter Tryz.func146, Tryz.ntmps146
  go_wp2_with fail
  refine (Dec_Scale p n sc b w HP.out).mono ?_
  rintro e w1 ⟨rfl, rfl⟩
  rw [hsc] at e1
  go_wp2_with fail
  refine (exp10_any k hk1 (by omega) _).mono ?_
  rintro e w2 ⟨y, by_, rfl, hy, ay, ky, qy⟩
  rw [HM.out] at ay
  have AY := Lib.hid ay
  have KY := Lib.hid ky
  have hpy : p < w.heap.size := HP.out.lt
  have HPY : Hid (p ≠ y) := by intro e; omega
  have HP2 := Lib.hid (HP.out.old ky)
  clear ay ky qy hy
  go_wp2_with fail
  refine (Dec_UnscaledBig p n sc b (w2.alloc zInt) (HP2.out.old ((Kept.refl _ _).alloc _))).mono ?_
  rintro e w3 ⟨rfl, rfl⟩
  go_wp2_with fail
  have hz := zInt_at w2
  have hyl := AY.out.lt
  refine (Int_Mul_word w2.heap.size p y 0 n (M : Int) none b by_ [] _ [] 109 112 109 (w2.alloc zInt) hz (HP2.out.old ((Kept.refl _ _).alloc _)) (AY.out.old ((Kept.refl _ _).alloc _)) HPY.out (Or.inr ⟨by have := HP2.out.lt; omega, by simp⟩) (by omega) (by simp) (by omega) (by rw [Int.natAbs_natCast]; exact hMw) (Nat.le_trans HN.out (by omega))).mono ?_
  rintro e w4 h
  have hnew := new_of (w1 := w2.alloc zInt) (Nat.le_refl _) (KY.out.trans ((Kept.refl (fun _ => False) w2).alloc zInt) (fun _ _ f => f) (fun _ _ f => f)) KY.out.size h
  obtain ⟨z, bz, rfl, hz1, az, kz, qz⟩ := hnew
  have AZ := Lib.hid az
  have KZ := Lib.hid kz
  clear h hz az kz qz hz1
  go_wp2_with fail
  refine (NewDecBig_any z (n * (M : Int)) sc' bz [] 109 w4 AZ.out ?_).mono ?_
  · rw [Int.natAbs_mul, Int.natAbs_natCast]
    exact sm_mul HN.out hMw
  rintro e w5 ⟨q, bq, rfl, hq, aq, kq, qq⟩
  have HF : Hid (NewD w (n * (M : Int)) sc' (.returned (.pointer (some ⟨q, 0, none⟩))) w5) := ⟨q, bq, rfl, by have := KZ.out.size; omega, aq, KZ.out.trans kq (fun _ _ f => f) (fun _ _ f => f), fun k hk => by have := KZ.out.size; have := qq k hk; omega⟩
  clear aq kq qq hq
  go_wp2_with fail
  go_ret
  exact HF.out
end Go.Proofs.YtjebnpkebccffaaGreatDoor
namespace Go.Proofs.YtjebnpkebccffaaGreatDoor
open Go.RowKit
set_option maxHeartbeats 1000000 in
theorem upscale_gt (p q k M : Nat) (hM : 10 ^ k = M) (n m sc sd : Int) (b c : Option Nat) (w : World) (hp : DecAt w p n sc b) (hq : DecAt w q m sd c) (hk1 : 1 ≤ k) (hk : k < 20) (hsc : sc - sd = (k : Int)) (hb1 : -2000000000 ≤ sd) (hb2 : sc ≤ 2000000000) (hn : (dig m.natAbs).length ≤ 50000) :
    Calls Tryz.prog 108 #[.pointer (some ⟨p, 0, none⟩), .pointer (some ⟨q, 0, none⟩)] w fun e w' => ∃ r, e = .returned (.tuple #[.pointer (some ⟨p, 0, none⟩), .pointer (some ⟨r, 0, none⟩)]) ∧ NewD w (m * (M : Int)) sc (.returned (.pointer (some ⟨r, 0, none⟩))) w' := by
  have HP := Lib.hid hp
  have HQ := Lib.hid hq
  have HR := Lib.hid (Dec_rescale_up q k M hM m sd sc c w hq hk1 hk hsc hb1 hb2 hn)
  have g1 : (sc == sd) = false := beqF (by omega)
  have g2 : decide (sd < sc) = true := decT (by omega)
  clear hp hq hM
  go_enter Tryz.func108, Tryz.ntmps108
  go_wp2_with fail
  refine (Dec_Scale p n sc b w HP.out).mono ?_
  rintro e w1 ⟨rfl, rfl⟩
  go_wp2_with fail
  refine (Dec_Scale q m sd c w HQ.out).mono ?_
  rintro e w1 ⟨rfl, rfl⟩
  go_wp2_with fail
  refine (Dec_Scale p n sc b w HP.out).mono ?_
  rintro e w1 ⟨rfl, rfl⟩
  go_wp2_with fail
  refine (Dec_Scale q m sd c w HQ.out).mono ?_
  rintro e w1 ⟨rfl, rfl⟩
  go_wp2_with fail
  refine (Dec_Scale p n sc b w HP.out).mono ?_
  rintro e w1 ⟨rfl, rfl⟩
  go_wp2_with fail
  refine HR.out.mono ?_
  intro e w2 h
  have h' := h
  obtain ⟨r, br, rfl, _⟩ := h'
  have H := Lib.hid h
  clear h
  go_wp2_with fail
  go_ret2
  exact ⟨r, rfl, H.out⟩
set_option maxHeartbeats 1000000 in
theorem upscale_lt (p q k M : Nat) (hM : 10 ^ k = M) (n m sc sd : Int) (b c : Option Nat) (w : World) (hp : DecAt w p n sc b) (hq : DecAt w q m sd c) (hk1 : 1 ≤ k) (hk : k < 20) (hsc : sd - sc = (k : Int)) (hb1 : -2000000000 ≤ sc) (hb2 : sd ≤ 2000000000) (hn : (dig n.natAbs).length ≤ 50000) :
    Calls Tryz.prog 108 #[.pointer (some ⟨p, 0, none⟩), .pointer (some ⟨q, 0, none⟩)] w fun e w' => ∃ r, e = .returned (.tuple #[.pointer (some ⟨r, 0, none⟩), .pointer (some ⟨q, 0, none⟩)]) ∧ NewD w (n * (M : Int)) sd (.returned (.pointer (some ⟨r, 0, none⟩))) w' := by
  have HP := Lib.hid hp
  have HQ := Lib.hid hq
  have HR := Lib.hid (Dec_rescale_up p k M hM n sc sd b w hp hk1 hk hsc hb1 hb2 hn)
  have g1 : (sc == sd) = false := beqF (by omega)
  have g2 : decide (sd < sc) = false := decF (by omega)
  clear hp hq hM
  go_enter Tryz.func108, Tryz.ntmps108
  go_wp2_with fail
  refine (Dec_Scale p n sc b w HP.out).mono ?_
  rintro e w1 ⟨rfl, rfl⟩
  go_wp2_with fail
  refine (Dec_Scale q m sd c w HQ.out).mono ?_
  rintro e w1 ⟨rfl, rfl⟩
  go_wp2_with fail
  refine (Dec_Scale p n sc b w HP.out).mono ?_
  rintro e w1 ⟨rfl, rfl⟩
  go_wp2_with fail
  refine (Dec_Scale q m sd c w HQ.out).mono ?_
  rintro e w1 ⟨rfl, rfl⟩
  go_wp2_with fail
  refine (Dec_Scale q m sd c w HQ.out).mono ?_
  rintro e w1 ⟨rfl, rfl⟩
  go_wp2_with fail
  refine HR.out.mono ?_
  intro e w2 h
  have h' := h
  obtain ⟨r, br, rfl, _⟩ := h'
  have H := Lib.hid h
  clear h
  go_wp2_with fail
  go_ret2
  exact ⟨r, rfl, H.out⟩
theorem kept_new' {S : Nat → Prop} {w w1 w2 : World} (h : Kept S w w1) (k : Kept (fun _ => False) w1 w2) : Kept S w w2 := h.trans k (fun _ _ h => h) (fun _ _ f => f.elim)
def CmpRes (w : World) (r : Int) (e : Ending) (w' : World) : Prop := e = .returned (.int .i64 r) ∧ Kept (fun _ => False) w w'
def UpRes (w : World) (n' m' : Int) (e : Ending) (w' : World) : Prop :=
  ∃ p' q' b' c' sc, e = .returned (.tuple #[.pointer (some ⟨p', 0, none⟩), .pointer (some ⟨q', 0, none⟩)]) ∧ p' ≠ q' ∧ DecAt w' p' n' sc b' ∧ DecAt w' q' m' sc c' ∧ Kept (fun _ => False) w w'
set_option maxHeartbeats 1000000 in
theorem Dec_Cmp_of (p q : Nat) (n' m' : Int) (w : World) (hu : Calls Tryz.prog 108 #[.pointer (some ⟨p, 0, none⟩), .pointer (some ⟨q, 0, none⟩)] w (UpRes w n' m')) :
    Calls Tryz.prog 68 #[.pointer (some ⟨p, 0, none⟩), .pointer (some ⟨q, 0, none⟩)] w (CmpRes w (cmpZ n' m')) := by
  have HU := Lib.hid hu
  clear hu
  go_enter Tryz.func68, Tryz.ntmps68
  go_wp2_with fail
  refine HU.out.mono ?_
  rintro e w1 ⟨p', q', b', c', sc, rfl, hne, hp, hq, hk⟩
  have HP := Lib.hid hp
  have HQ := Lib.hid hq
  have HK := Lib.hid hk
  clear hp hq hk
  go_wp2_with fail
  refine (Dec_UnscaledBig p' n' sc b' w1 HP.out).mono ?_
  rintro e w2 ⟨rfl, rfl⟩
  go_wp2_with fail
  refine (Dec_UnscaledBig q' m' sc c' w1 HQ.out).mono ?_
  rintro e w2 ⟨rfl, rfl⟩
  go_wp2_with fail
  refine (Int_Cmp p' q' n' m' b' c' _ _ 112 112 w1 HP.out HQ.out hne).mono ?_
  rintro e w2 ⟨rfl, hd⟩
  have H := Lib.hid (kept_new' HK.out hd.kept)
  clear hd
  go_wp2_with fail
  go_ret
  exact ⟨rfl, H.out⟩
theorem Dec_Cmp_gt (p q k M : Nat) (hM : 10 ^ k = M) (n m sc sd : Int) (b c : Option Nat) (w : World) (hp : DecAt w p n sc b) (hq : DecAt w q m sd c) (hk1 : 1 ≤ k) (hk : k < 20) (hsc : sc - sd = (k : Int)) (hb1 : -2000000000 ≤ sd) (hb2 : sc ≤ 2000000000) (hn : (dig m.natAbs).length ≤ 50000) :
    Calls Tryz.prog 68 #[.pointer (some ⟨p, 0, none⟩), .pointer (some ⟨q, 0, none⟩)] w (CmpRes w (cmpZ n (m * (M : Int)))) := by
  refine Dec_Cmp_of p q n _ w ((upscale_gt p q k M hM n m sc sd b c w hp hq hk1 hk hsc hb1 hb2 hn).mono ?_)
  rintro e w1 ⟨r, rfl, r', br, he, hr, ar, kr, qr⟩
  injection he with he
  injection he with he
  injection he with he
  injection he with he
  subst he
  exact ⟨p, r, b, br, sc, rfl, by have := IntAt.lt hp; omega, IntAt.old hp kr, ar, kr⟩
theorem Dec_Cmp_lt (p q k M : Nat) (hM : 10 ^ k = M) (n m sc sd : Int) (b c : Option Nat) (w : World) (hp : DecAt w p n sc b) (hq : DecAt w q m sd c) (hk1 : 1 ≤ k) (hk : k < 20) (hsc : sd - sc = (k : Int)) (hb1 : -2000000000 ≤ sc) (hb2 : sd ≤ 2000000000) (hn : (dig n.natAbs).length ≤ 50000) :
    Calls Tryz.prog 68 #[.pointer (some ⟨p, 0, none⟩), .pointer (some ⟨q, 0, none⟩)] w (CmpRes w (cmpZ (n * (M : Int)) m)) := by
  refine Dec_Cmp_of p q _ m w ((upscale_lt p q k M hM n m sc sd b c w hp hq hk1 hk hsc hb1 hb2 hn).mono ?_)
  rintro e w1 ⟨r, rfl, r', br, he, hr, ar, kr, qr⟩
  injection he with he
  injection he with he
  injection he with he
  injection he with he
  subst he
  exact ⟨r, q, br, c, sd, rfl, by have := IntAt.lt hq; omega, ar, IntAt.old hq kr, kr⟩
end Go.Proofs.YtjebnpkebccffaaGreatDoor
