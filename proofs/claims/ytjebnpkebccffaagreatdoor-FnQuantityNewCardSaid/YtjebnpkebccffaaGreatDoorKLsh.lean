import Derived.Test.YtjebnpkebccffaaGreatDoorKExpn
import Derived.Test.YtjebnpkebccffaaGreatDoorKIntd
set_option linter.unusedSimpArgs false
set_option linter.unusedVariables false
set_option linter.unusedSectionVars false
namespace Go.Proofs.YtjebnpkebccffaaGreatDoor
open Go.RowKit
theorem and63_all : (List.range 64).all (fun s => decide (bits .and .u64 (s : Int) 63 = (s : Int))) = true := by decide +kernel
theorem and63 (s : Nat) (h : s < 64) : bits .and .u64 (s : Int) 63 = (s : Int) := by
  have := List.all_eq_true.1 and63_all s (List.mem_range.2 h)
  simpa using this
theorem shr1_all : (List.range 64).all (fun s => decide (s = 0) || decide ((1 : Int) / 2 ^ (64 - s) = 0)) = true := by decide +kernel
theorem shr1 (s : Nat) (h : s < 64) (h0 : 1 ≤ s) : (1 : Int) / 2 ^ (64 - s) = 0 := by
  have := List.all_eq_true.1 shr1_all s (List.mem_range.2 h)
  simp only [Bool.or_eq_true, decide_eq_true_eq] at this
  rcases this with h | h
  · omega
  · exact h
theorem shl1_all : (List.range 64).all (fun s => decide (IntKind.u64.wrap ((2 : Int) ^ s) = ((2 ^ s : Nat) : Int))) = true := by decide +kernel
theorem shl1 (s : Nat) (h : s < 64) : IntKind.u64.wrap ((2 : Int) ^ s) = ((2 ^ s : Nat) : Int) := by
  have := List.all_eq_true.1 shl1_all s (List.mem_range.2 h)
  simpa using this
set_option maxHeartbeats 400000 in
theorem lshVU_g_one (zb xb zc xc s : Nat) (cz cx : Array Value) (w : World) (h1 : 1 ≤ s) (h2 : s < 64)
    (hz : w.heap[zb]? = some (.cells cz 165 (0, 0))) (hzp : 0 < cz.size) (hx : w.heap[xb]? = some (.cells cx 165 (0, 0))) (hxc : Has cx 0 [1]) :
    Calls Tryz.prog 166 #[.slice (some ⟨zb, 0, none⟩) 1 zc, .slice (some ⟨xb, 0, none⟩) 1 xc, .int .u64 (s : Int)] w fun e w' => e = .returned (.int .u64 0) ∧ w' = putWords w zb 0 [2 ^ s] := by
  have c1 : w.cell? ⟨xb, 0, none⟩ = some (.int .u64 1) := by rw [cell_of hx]; exact hxc 0 (by simp)
  have c2 : w.cell? ⟨zb, 0, none⟩ = some (cz[0]) := by rw [cell_of hz]; exact Array.getElem?_eq_getElem hzp
  have f2 := frozen_of hz 0
  have a1 : ((s : Int) == 0) = false := beqF (by omega)
  have e1 := and63 s h2
  have e2 := and63 (64 - s) (by omega)
  have e0 : IntKind.u64.wrap ((64 : Int) - (s : Int)) = ((64 - s : Nat) : Int) := by rw [IntKind.wrap_u64]; omega
  have e3 := shr1 s h2 h1
  have e4 := shl1 s h2
  clear hz hx hxc
  go_enter Tryz.func166, Tryz.ntmps166
  go_wp2_with fail
  go_loop [8] (fun i => i = .int .i64 0) (fun _ => 0)
  case atStart => rfl
  case round =>
    subst hrel
    go_wp2_with fail
    go_ret
    exact ⟨rfl, by simp [putWords]⟩
set_option maxHeartbeats 400000 in
theorem lshVU_one (zb xb zc xc s : Nat) (cz cx : Array Value) (w : World) (h1 : 1 ≤ s) (h2 : s < 64)
    (hz : w.heap[zb]? = some (.cells cz 165 (0, 0))) (hzp : 0 < cz.size) (hx : w.heap[xb]? = some (.cells cx 165 (0, 0))) (hxc : Has cx 0 [1]) :
    Calls Tryz.prog 136 #[.slice (some ⟨zb, 0, none⟩) 1 zc, .slice (some ⟨xb, 0, none⟩) 1 xc, .int .u64 (s : Int)] w fun e w' => e = .returned (.int .u64 0) ∧ w' = putWords w zb 0 [2 ^ s] := by
  have H := Lib.hid (lshVU_g_one zb xb zc xc s cz cx w h1 h2 hz hzp hx hxc)
  clear hz hx hxc
  go_enter Tryz.func136, Tryz.ntmps136
  go_wp2_with fail
  refine H.out.mono ?_
  rintro e w1 ⟨rfl, h⟩
  have H := Lib.hid h
  clear h
  go_wp2_with fail
  go_ret
  exact ⟨rfl, H.out⟩
theorem pow_lt64 (s : Nat) (h2 : s < 64) : 2 ^ s < B64 := Nat.pow_lt_pow_right (by omega) h2
set_option maxHeartbeats 1000000 in
set_option maxRecDepth 100000 in
theorem nat_lsh_one (z x : Value) (bz bx : Option Nat) (s : Nat) (w : World) (hz : BufAt w z bz) (hx : NatAt w x 1 bx) (h1 : 1 ≤ s) (h2 : s < 64) :
    Calls Tryz.prog 96 #[z, x, .int .u64 (s : Int)] w (NatRes w bz (2 ^ s)) := by
  have ex := dig_one (n := 1) (by omega) (by unfold B64; omega)
  obtain ⟨kx, cx, rfl, rfl, hkx, hlx, hpx, hsx, hhx⟩ := has_val hx (by omega)
  rw [ex] at hhx ⊢
  have HZ := Lib.hid hz
  have HK := Lib.hid hkx
  have HH := Lib.hid hhx
  have a1 : ((s : Int) == 0) = false := beqF (by omega)
  have a2 : IntKind.u64.wrap ((s : Int) / 64) = 0 := by rw [IntKind.wrap_u64]; omega
  have a3 : IntKind.u64.wrap ((s : Int) % 64) = (s : Int) := by rw [IntKind.wrap_u64]; omega
  have a4 : (s : Int) / 64 = 0 := by omega
  have a5 : (s : Int) % 64 = (s : Int) := by omega
  simp only [List.length_cons, List.length_nil, Nat.zero_add]
  clear hz hx hkx hhx ex
  go_enter Tryz.func96, Tryz.ntmps96
  go_wp2_with fail
  refine (nat_make z bz 2 _ HZ.out (by omega) (by omega)).mono ?_
  rintro e w1 ⟨k, cs, rfl, hk, hn, hp', hs', hown⟩
  have hk1 := made_other hown HK.out
  have HO := Lib.hid hown
  have HK1 := Lib.hid hk1
  have HKK := Lib.hid hk
  clear hown hk1 hk
  have p1 := putWords_block HKK.out 0 [2 ^ s]
  have b2 : (w1.heap[k]? = some (.cells cs 165 (0,0))) := HKK.out
  go_wp2_with fail
  refine (lshVU_one k kx cs.size cx.size s cs cx _ h1 h2 HKK.out (by omega) HK1.out HH.out).mono ?_
  rintro e w2 ⟨rfl, hw2⟩
  rw [← hw2] at p1
  have c2 : w2.cell? ⟨k, 1, none⟩ = some (cs[1]) := by
    rw [cell_of p1, putC_off _ _ _ _ (Or.inr (by simp))]
    exact Array.getElem?_eq_getElem (by omega)
  have f2 := frozen_of p1 1
  have hfin : w2.setCell ⟨k, 1, none⟩ (.int .u64 0) = putWords w1 k 0 [2 ^ s, 0] := by
    rw [hw2]; rfl
  have HF := Lib.hid hfin
  have hcl : ∀ ty w, (Builtin.clear_ #[107] ty #[.slice (some ⟨k, 0, none⟩) 0 cs.size]).run Tryz.prog w = .ok (.tuple #[]) w := fun ty w => by
    simp [Builtin.clear_, run_underlying Tryz.underlying107]
  clear hw2 p1 hfin b2
  go_wp2_with fail
  clear hcl
  have hfb := putWords_block HKK.out 0 [2 ^ s, 0]
  rw [← HF.out] at hfb
  have e2 : ∀ x ∈ [2 ^ s, 0], x < B64 := by
    intro x hx
    have := pow_lt64 s h2
    simp at hx
    rcases hx with rfl | rfl
    · exact this
    · unfold B64; omega
  have e1 : val [2 ^ s, 0] = 2 ^ s := by simp [val]
  refine (norm_any k 0 cs.size 2 _ _ 165 _ rfl (by omega) (by omega) e2 hfb (putC_has _ _ _ (by simp; omega))).mono ?_
  rintro e w3 ⟨rfl, rfl⟩
  have HFB := Lib.hid hfb
  have E2 := Lib.hid e2
  have E1 := Lib.hid e1
  clear e1 e2 hfb
  go_wp2_with fail
  go_ret
  refine natRes_mk HO.out ?_ ?_
  · rw [HF.out]; exact putWords_kept (Kept.refl _ _) k 0 _ (fun _ => rfl)
  · have := natAt_of HFB.out E2.out E1.out (putC_has _ _ _ (by simp; omega)) (by rw [putC_size]; simp; omega) (by rw [putC_size]; omega) (by rw [putC_size]; omega)
    rw [putC_size] at this
    rw [E1.out]
    exact this
end Go.Proofs.YtjebnpkebccffaaGreatDoor
namespace Go.Proofs.YtjebnpkebccffaaGreatDoor
open Go.RowKit
def zInt : Obj := .cells #[.bool false, .slice none 0 0] 109
theorem zInt_at (w : World) : IntAt (w.alloc zInt) w.heap.size 0 none [] 109 :=
  ⟨.slice none 0 0, heap_alloc_new _ _, ⟨rfl, rfl⟩, by simp⟩
theorem IntAt.old {w w' : World} {p : Nat} {n : Int} {b : Option Nat} {rest : List Value} {T : TypeId} (h : IntAt w p n b rest T) (hk : Kept (fun _ => False) w w') : IntAt w' p n b rest T :=
  h.kept hk (fun f => f) (fun _ _ f => f)
theorem new_of {w w1 w3 w4 : World} {z : Nat} {n : Int} {e : Ending} (hw1 : w1.heap.size ≤ w3.heap.size) (hk : Kept (fun _ => False) w w3) (hz : w.heap.size ≤ z) (h : IntRes w3 z none n [] 109 e w4) : NewRes w n e w4 := by
  obtain ⟨rfl, b', h1, h2, h3⟩ := h
  refine ⟨z, b', rfl, hz, h1, hk.trans h2 (fun _ _ f => f) (fun i hi hs => ?_), fun k hk' => ?_⟩
  · rcases hs with hs | hs
    · omega
    · cases hs
  · rcases h3 with h3 | ⟨j, hj, hjs⟩
    · rw [h3] at hk'; cases hk'
    · rw [hj] at hk'; injection hk' with hk'; have := hk.size; omega
theorem pow10_half (k : Nat) (h : k < 40) : 10 ^ (k / 2) < B64 := by
  have h1 : 10 ^ (k / 2) ≤ 10 ^ 19 := Nat.pow_le_pow_right (by omega) (by omega)
  have h2 : (10 : Nat) ^ 19 < B64 := by unfold B64; decide
  omega
theorem exp10_fin (k : Nat) (h1 : 1 ≤ k) (h2 : k < 40) (w w2 w3 : World) (p1 p2 : Nat) (b1 b2 : Option Nat) (a1 : IntAt w2 p1 10 b1 [] 109) (a2 : IntAt w3 p2 (k : Int) b2 [] 109)
    (hk2 : Kept (fun _ => False) (w.alloc zInt) w2) (hk3 : Kept (fun _ => False) w2 w3) :
    Calls Tryz.prog 118 #[.pointer (some ⟨w.heap.size, 0, none⟩), .pointer (some ⟨p1, 0, none⟩), .pointer (some ⟨p2, 0, none⟩), .pointer none] w3 (NewRes w ((10 ^ k : Nat) : Int)) := by
  refine (Int_Exp_small w.heap.size p1 p2 10 k b1 b2 [] [] [] 109 109 109 w3 (((zInt_at w).old hk2).old hk3) (a1.old hk3) a2 (by omega) (by unfold B64; omega) h1 (by omega) (pow10_half k h2)).mono ?_
  intro e w4 h
  exact new_of (w1 := w2) hk3.size ((((Kept.refl _ w).alloc zInt).trans hk2 (fun _ _ f => f) (fun _ _ f => f)).trans hk3 (fun _ _ f => f) (fun _ _ f => f)) (Nat.le_refl _) h
theorem NewInt_nat (k : Nat) (h1 : k ≤ 9223372036854775807) (w : World) : Calls Tryz.prog 58 #[.int .i64 (k : Int)] w (NewRes w k) := by
  rcases Nat.eq_zero_or_pos k with h | h
  · subst h; exact NewInt_zero w
  · exact NewInt_pos k h h1 w
set_option maxHeartbeats 1000000 in
theorem exp10_any (k : Nat) (h1 : 1 ≤ k) (h2 : k < 40) (w : World) : Calls Tryz.prog 185 #[.int .i32 (k : Int)] w (NewRes w ((10 ^ k : Nat) : Int)) := by
  have e1 : IntKind.i64.wrap (k : Int) = (k : Int) := by rw [IntKind.wrap_i64]; omega
  go_enter Tryz.func185, Tryz.ntmps185
  go_wp2_with fail
  refine (NewInt_nat 10 (by omega) _).mono ?_
  rintro e w2 ⟨p1, b1, rfl, hp1, a1, k1, hb1⟩
  have A1 := Lib.hid a1
  have K1 := Lib.hid k1
  clear a1 k1 hp1 hb1
  go_wp2_with fail
  refine (NewInt_nat k (by omega) _).mono ?_
  rintro e w3 ⟨p2, b2, rfl, hp2, a2, k2, hb2⟩
  have A2 := Lib.hid a2
  have K2 := Lib.hid k2
  clear a2 k2 hp2 hb2
  go_wp2_with fail
  refine (exp10_fin k h1 h2 w w2 w3 p1 p2 b1 b2 A1.out A2.out K1.out K2.out).mono ?_
  rintro e w4 h
  have h' := h
  obtain ⟨p, b, rfl, _⟩ := h'
  have H := Lib.hid h
  clear h A1 K1 A2 K2
  go_wp2_with fail
  go_ret
  exact H.out
set_option maxHeartbeats 1000000 in
theorem Int_Mul_of (z x y : Nat) (bz : Option Nat) (n : Int) (rz : List Value) (Tz : TypeId) (w : World)
    (h : Calls Tryz.prog 98 #[.pointer (some ⟨z, 0, none⟩), .pointer none, .pointer (some ⟨x, 0, none⟩), .pointer (some ⟨y, 0, none⟩)] w fun e w' => e = .returned (.tuple #[]) ∧ IntRes w z bz n rz Tz (.returned (.pointer (some ⟨z, 0, none⟩))) w') :
    Calls Tryz.prog 62 #[.pointer (some ⟨z, 0, none⟩), .pointer (some ⟨x, 0, none⟩), .pointer (some ⟨y, 0, none⟩)] w (IntRes w z bz n rz Tz) := by
  have H := Lib.hid h
  clear h
  go_enter Tryz.func62, Tryz.ntmps62
  go_wp2_with fail
  refine H.out.mono ?_
  rintro e w4 ⟨rfl, h⟩
  have H := Lib.hid h
  clear h
  go_wp2_with fail
  go_ret
  exact H.out
set_option maxHeartbeats 1000000 in
theorem Int_SetInt64_pos (z k : Nat) (nz : Int) (bz : Option Nat) (rz : List Value) (Tz : TypeId) (w : World) (hz : IntAt w z nz bz rz Tz) (h1 : k ≤ 9223372036854775807) :
    Calls Tryz.prog 102 #[.pointer (some ⟨z, 0, none⟩), .int .i64 (k : Int)] w (IntRes w z bz (k : Int) rz Tz) := by
  obtain ⟨vz, hz1, hz2, hz3⟩ := hz
  obtain ⟨cz0, cz1, fz0, fz1⟩ := int_cells hz1
  have HZ1 := Lib.hid hz1
  have HZ2 := Lib.hid hz2
  have a1 : decide ((k : Int) < 0) = false := decF (by omega)
  have e1 : IntKind.u64.wrap (k : Int) = (k : Int) := by rw [IntKind.wrap_u64]; omega
  clear hz1 hz2
  go_enter Tryz.func102, Tryz.ntmps102
  go_wp2_with fail
  refine (setUint64_any vz bz k (by unfold B64; omega) _ HZ2.out.buf).mono ?_
  rintro e w1 ⟨v', b', rfl, h⟩
  obtain ⟨a', c', rfl⟩ := nat_slice h.1
  have ez := h.2.1.at HZ1.out hz3
  obtain ⟨d0, d1, d2, d3⟩ := int_cells ez
  have H := Lib.hid h
  clear h ez cz0 cz1 fz0 fz1
  go_wp2_with fail
  go_ret
  have := int_fin (n := (k : Int)) HZ1.out hz3 (by rw [Int.natAbs_natCast]; exact H.out.1) H.out.2.1 H.out.2.2
  rw [a1] at this
  exact this
set_option maxRecDepth 100000 in
set_option maxHeartbeats 1000000 in
theorem Int_SetInt64_neg (z k : Nat) (nz : Int) (bz : Option Nat) (rz : List Value) (Tz : TypeId) (w : World) (hz : IntAt w z nz bz rz Tz) (h0 : 1 ≤ k) (h1 : k ≤ 9223372036854775807) :
    Calls Tryz.prog 102 #[.pointer (some ⟨z, 0, none⟩), .int .i64 (-(k : Int))] w (IntRes w z bz (-(k : Int)) rz Tz) := by
  obtain ⟨vz, hz1, hz2, hz3⟩ := hz
  obtain ⟨cz0, cz1, fz0, fz1⟩ := int_cells hz1
  have HZ1 := Lib.hid hz1
  have HZ2 := Lib.hid hz2
  have a1 : decide (-(k : Int) < 0) = true := decT (by omega)
  have e0 : IntKind.i64.wrap (k : Int) = (k : Int) := by rw [IntKind.wrap_i64]; omega
  have e1 : IntKind.u64.wrap (k : Int) = (k : Int) := by rw [IntKind.wrap_u64]; omega
  clear hz1 hz2
  go_enter Tryz.func102, Tryz.ntmps102
  go_wp2_with fail
  refine (setUint64_any vz bz k (by unfold B64; omega) _ HZ2.out.buf).mono ?_
  rintro e w1 ⟨v', b', rfl, h⟩
  obtain ⟨a', c', rfl⟩ := nat_slice h.1
  have ez := h.2.1.at HZ1.out hz3
  obtain ⟨d0, d1, d2, d3⟩ := int_cells ez
  have H := Lib.hid h
  clear h ez cz0 cz1 fz0 fz1
  go_wp2_with fail
  go_ret
  have := int_fin (n := -(k : Int)) HZ1.out hz3 (by rw [Int.natAbs_neg, Int.natAbs_natCast]; exact H.out.1) H.out.2.1 H.out.2.2
  rw [a1] at this
  exact this
def low (n : Int) : Int := IntKind.i64.wrap (if n < 0 then -(IntKind.i64.wrap ((n.natAbs % B64 : Nat) : Int)) else IntKind.i64.wrap ((n.natAbs % B64 : Nat) : Int))
set_option maxHeartbeats 1000000 in
theorem Int_Lsh_one (z x s : Nat) (nz : Int) (bz bx : Option Nat) (rz rx : List Value) (Tz Tx : TypeId) (w : World) (hz : IntAt w z nz bz rz Tz) (hx : IntAt w x 1 bx rx Tx) (hb1 : bz ≠ some x) (hne : z ≠ x) (h1 : 1 ≤ s) (h2 : s < 64) :
    Calls Tryz.prog 59 #[.pointer (some ⟨z, 0, none⟩), .pointer (some ⟨x, 0, none⟩), .int .u64 (s : Int)] w (IntRes w z bz ((2 ^ s : Nat) : Int) rz Tz) := by
  obtain ⟨vz, hz1, hz2, hz3⟩ := hz
  obtain ⟨vx, hx1, hx2, hx3⟩ := hx
  obtain ⟨cz0, cz1, fz0, fz1⟩ := int_cells hz1
  obtain ⟨cx0, cx1, _, _⟩ := int_cells hx1
  rw [decF (show ¬ ((1 : Int) < 0) by omega)] at cx0
  have HZ1 := Lib.hid hz1
  have HX1 := Lib.hid hx1
  have HZ2 := Lib.hid hz2
  have HX2 := Lib.hid hx2
  clear hz1 hx1 hz2 hx2
  have setk : ∀ (w1 : World) (v' : Value) (b' : Option Nat), NatAt w1 v' (2 ^ s) b' ∧ Kept (fun k => bz = some k) w.drew w1 ∧ Own w.drew bz b' →
      w1.cell? ⟨z, 1, none⟩ = some vz ∧ w1.cell? ⟨x, 1, none⟩ = some vx ∧ w1.cell? ⟨z, 0, none⟩ = some (.bool (decide (nz < 0))) ∧ w1.cell? ⟨x, 0, none⟩ = some (.bool false) ∧ w1.frozen? ⟨z, 0, none⟩ = false ∧ w1.frozen? ⟨z, 1, none⟩ = false ∧
      Hid (NatAt w1 v' (2 ^ s) b' ∧ Kept (fun k => bz = some k) w w1 ∧ Own w bz b') := by
    intro w1 v' b' ⟨h1, h2, h3⟩
    have h2' : Kept (fun k => bz = some k) w w1 := ⟨h2.os, h2.tape, h2.output, h2.size, h2.block⟩
    have ez := h2'.at HZ1.out hz3
    have ex := h2'.at HX1.out hb1
    obtain ⟨c1, c2, c3, c4⟩ := int_cells ez
    obtain ⟨d1, d2, _, _⟩ := int_cells ex
    exact ⟨c2, d2, c1, d1, c3, c4, h1, h2', h3⟩
  have SETK := Lib.hid setk
  clear setk
  go_enter Tryz.func59, Tryz.ntmps59
  go_wp2_with fail
  go_region_with (go_at_call 96; refine (nat_lsh_one vz vx bz bx s w.drew (by exact HZ2.out.buf) (by exact HX2.out) h1 h2).mono ?_; rintro e w1 ⟨v', b', rfl, h⟩; obtain ⟨a', c', rfl⟩ := nat_slice h.1; obtain ⟨k1, k2, k3, k4, k5, k6, k7⟩ := SETK.out w1 _ b' h; clear h)
  all_goals
    go_wp2_with fail
    go_ret
    have := int_fin (n := ((2 ^ s : Nat) : Int)) HZ1.out hz3 (by rw [Int.natAbs_natCast]; exact k7.out.1) k7.out.2.1 k7.out.2.2
    rw [decF (Int.not_lt.2 (Int.natCast_nonneg (2 ^ s)))] at this
    exact this
end Go.Proofs.YtjebnpkebccffaaGreatDoor
