import Derived.Test.YtjebnpkebccffaaGreatDoorKNum
import Derived.Test.YtjebnpkebccffaaGreatDoorKInt
import Derived.Lib.BitFns
import Derived.Laws.BitsAll
import Derived.Laws.Bits64
import Derived.Deep.DeepCutAuto
import Derived.Deep.CutBlock
set_option linter.unusedSimpArgs false
set_option linter.unusedVariables false
set_option linter.unusedSectionVars false
namespace Go.Proofs.YtjebnpkebccffaaGreatDoor
def ev (k M j : Nat) : Nat := k / 2 ^ (M - j)
def vv (k M j : Nat) : Nat := (k * 2 ^ (64 - M + j)) % 18446744073709551616
def exOK (k : Nat) : Bool :=
  decide (k < 2) || (decide (1 ≤ Lib.bitLen k - 1) && decide (Lib.bitLen k ≤ 9) && decide (2 ≤ Lib.bitLen k) && decide (ev k (Lib.bitLen k - 1) 0 = 1) && decide (ev k (Lib.bitLen k - 1) (Lib.bitLen k - 1) = k) &&
    (List.range 9).all fun j => decide (Lib.bitLen k - 1 ≤ j) || ((decide (9223372036854775808 ≤ vv k (Lib.bitLen k - 1) j) || decide (ev k (Lib.bitLen k - 1) (j + 1) = 2 * ev k (Lib.bitLen k - 1) j)) &&
      (decide (vv k (Lib.bitLen k - 1) j < 9223372036854775808) || decide (ev k (Lib.bitLen k - 1) (j + 1) = 2 * ev k (Lib.bitLen k - 1) j + 1)) && decide (2 * ev k (Lib.bitLen k - 1) j ≤ k)))
theorem exOK_all : (List.range 512).all exOK = true := by decide +kernel
theorem ex_facts (k M : Nat) (h : k < 512) (h2 : 2 ≤ k) (hM : Lib.bitLen k = M + 1) : (1 ≤ M ∧ M ≤ 8) ∧ ev k M 0 = 1 ∧ ev k M M = k ∧
    ∀ j, j < M → (vv k M j < 9223372036854775808 → ev k M (j + 1) = 2 * ev k M j) ∧ (9223372036854775808 ≤ vv k M j → ev k M (j + 1) = 2 * ev k M j + 1) ∧ 2 * ev k M j ≤ k := by
  have h0 := List.all_eq_true.1 exOK_all k (List.mem_range.2 h)
  unfold exOK at h0
  rw [hM] at h0
  simp only [Nat.add_sub_cancel, Bool.or_eq_true, Bool.and_eq_true, decide_eq_true_eq, List.all_eq_true, List.mem_range] at h0
  rcases h0 with h0 | ⟨⟨⟨⟨⟨a1, a2⟩, a3⟩, a4⟩, a5⟩, a6⟩
  · omega
  · refine ⟨⟨a1, by omega⟩, a4, a5, fun j hj => ?_⟩
    rcases a6 j (by omega) with h | ⟨⟨h1, h2⟩, h3⟩
    · omega
    · refine ⟨fun h => ?_, fun h => ?_, h3⟩
      · rcases h1 with h1 | h1
        · omega
        · exact h1
      · rcases h2 with h2 | h2
        · omega
        · exact h2
theorem bitLen_two (k : Nat) (h : k < 512) (h2 : 2 ≤ k) : ∃ M, Lib.bitLen k = M + 1 := by
  have h0 := List.all_eq_true.1 exOK_all k (List.mem_range.2 h)
  unfold exOK at h0
  simp only [Bool.or_eq_true, Bool.and_eq_true, decide_eq_true_eq, List.all_eq_true, List.mem_range] at h0
  rcases h0 with h0 | ⟨⟨⟨⟨⟨a1, a2⟩, a3⟩, a4⟩, a5⟩, a6⟩
  · omega
  · exact ⟨Lib.bitLen k - 1, by omega⟩
theorem vv_succ (k M j : Nat) : vv k M (j + 1) = (vv k M j * 2) % 18446744073709551616 := by
  unfold vv
  rw [← Nat.add_assoc, Nat.pow_succ, ← Nat.mul_assoc, Nat.mod_mul_mod]
theorem vv_lt (k M j : Nat) : vv k M j < 18446744073709551616 := Nat.mod_lt _ (by omega)
theorem and_top (v : Nat) (hv : v < 18446744073709551616) : bits .and .u64 (v : Int) 9223372036854775808 = if v < 9223372036854775808 then 0 else 9223372036854775808 := by
  have h1 : (BitVec.ofInt 64 (v : Int)).toNat = v := by rw [BitVec.ofInt_natCast, BitVec.toNat_ofNat]; exact Nat.mod_eq_of_lt (by omega)
  have h2 : (BitVec.ofInt 64 (9223372036854775808 : Int)).toNat = 9223372036854775808 := by decide
  show IntKind.u64.wrap ((BitVec.ofInt 64 (v : Int) &&& BitVec.ofInt 64 9223372036854775808).toNat : Int) = _
  rw [BitVec.toNat_and, h1, h2, IntKind.wrap_u64]
  have h3 : v &&& 9223372036854775808 = if v < 9223372036854775808 then 0 else 9223372036854775808 := by
    have e1 : v &&& 9223372036854775808 = (v / 2 ^ 63 % 2) * 2 ^ 63 := by
      apply Nat.eq_of_testBit_eq
      intro i
      rw [Nat.testBit_and, show (9223372036854775808 : Nat) = 2 ^ 63 from by decide, Nat.testBit_two_pow]
      by_cases hi : 63 = i
      · subst hi
        rw [Nat.testBit_eq_decide_div_mod_eq, Nat.testBit_eq_decide_div_mod_eq, Nat.mul_div_cancel _ (by decide)]
        have : v / 2 ^ 63 % 2 = 0 ∨ v / 2 ^ 63 % 2 = 1 := by omega
        rcases this with h | h <;> rw [h] <;> decide
      · have : v / 2 ^ 63 % 2 = 0 ∨ v / 2 ^ 63 % 2 = 1 := by omega
        rcases this with h | h <;> rw [h]
        · simp [hi]
        · rw [Nat.one_mul, Nat.testBit_two_pow]; simp [hi]
    rw [e1, show (2 : Nat) ^ 63 = 9223372036854775808 from by decide]
    split
    · rename_i h
      have : v / 9223372036854775808 = 0 := by omega
      rw [this]
    · rename_i h
      have : v / 9223372036854775808 = 1 := by omega
      rw [this]
  rw [h3]
  split <;> rfl
end Go.Proofs.YtjebnpkebccffaaGreatDoor
namespace Go.Proofs.YtjebnpkebccffaaGreatDoor
open Go.RowKit
set_option maxHeartbeats 400000 in
theorem nlz_any (x : Nat) (hx : x < B64) (w : World) :
    Calls Tryz.prog 222 #[.int .u64 x] w fun e w' => e = .returned (.int .u64 ((64 - Lib.bitLen x : Nat) : Int)) ∧ w = w' := by
  have hb : Lib.bitLen x ≤ 64 := by
    have aux : ∀ f n, Lib.bitLenAux f n ≤ f := by
      intro f
      induction f with
      | zero => intro n; exact Nat.le_refl _
      | succ f ih =>
        intro n
        unfold Lib.bitLenAux
        split
        · omega
        · have := ih (n / 2); omega
    exact aux 64 x
  have he : (64 : Int) - ((Lib.bitLen x : Nat) : Int) = ((64 - Lib.bitLen x : Nat) : Int) := by omega
  have h := (Tryz.bits_LeadingZeros (x : Int) w (by omega) (by unfold B64 at hx; omega))
  simp only [Int.toNat_natCast] at h
  rw [he] at h
  have H := Lib.hid h
  clear h he
  generalize hk : 64 - Lib.bitLen x = k at *
  have : k ≤ 64 := by omega
  clear hk
  go_enter Tryz.func222, Tryz.ntmps222
  go_wp2_with fail
  refine H.out.mono ?_
  rintro e w' ⟨rfl, rfl⟩
  go_wp2_with fail
  go_ret
  exact ⟨rfl, rfl⟩
set_option maxHeartbeats 400000 in
theorem alias_nil (a : Option Addr) (l c : Nat) (w : World) :
    Calls Tryz.prog 133 #[.slice none 0 0, .slice a l c] w fun e w' => e = .returned (.bool false) ∧ Drew w w' := by
  have g1 : decide (0 < ((0 : Nat) : Int)) = false := by decide
  go_enter Tryz.func133, Tryz.ntmps133
  go_wp2_with fail
  go_quiet (fail)
  go_wp2_with fail
  go_ret
  exact ⟨rfl, _, rfl⟩
set_option maxHeartbeats 400000 in
theorem getStack_any (w : World) :
    Calls Tryz.prog 169 #[] w fun e w' => e = .returned (.pointer (some ⟨w.heap.size, 0, none⟩)) ∧ w' = w.alloc (.cells #[.pointer none] 309) := by
  go_enter Tryz.func169, Tryz.ntmps169
  go_wp2_with fail
  go_ret
  exact ⟨rfl, rfl⟩
set_option maxHeartbeats 400000 in
theorem stack_free_d (s : Nat) (u : FrameMode) (w : World) (h : w.cell? ⟨s, 0, none⟩ = some (.pointer none)) :
    CallsD Tryz.prog 170 #[.pointer (some ⟨s, 0, none⟩)] u w fun e u' w' => u' = u ∧ (e = .returned (.tuple #[]) ∧ w = w') := by
  go_enter_d Tryz.func170, Tryz.ntmps170
  go_wp2_with fail
  go_end0
  exact ⟨rfl, rfl⟩
theorem norm_nat {w : World} {v : Value} {n : Nat} {b : Option Nat} (h : NatAt w v n b) (h0 : n ≠ 0) : Calls Tryz.prog 137 #[v] w fun e w' => e = .returned v ∧ w = w' := by
  obtain ⟨k, cs, rfl, rfl, hk, hl, hp, hs, hh⟩ := has_val h h0
  have := norm_any k 0 cs.size (dig n).length (dig n) cs 165 w rfl (by omega) hl (dig_lt n) hk hh
  rwa [val_dig] at this
def ExpSt (wb : World) (n : Nat) (vz vzz : Value) (bz bzz : Option Nat) (wr : World) : Prop :=
  NatAt wr vz n bz ∧ BufAt wr vzz bzz ∧ Kept (fun _ => False) wb wr ∧ (∀ k, bz = some k → wb.heap.size ≤ k) ∧ (∀ k, bzz = some k → wb.heap.size ≤ k) ∧ (∀ k, bz = some k → bzz ≠ some k)
theorem exp_step {wb wr wr' : World} {n n' : Nat} {vz vzz v' : Value} {bz bzz b' : Option Nat} (h : ExpSt wb n vz vzz bz bzz wr) (hr : NatAt wr' v' n' b' ∧ Kept (fun k => bzz = some k) wr wr' ∧ Own wr bzz b') : ExpSt wb n' v' vz b' bz wr' := by
  obtain ⟨h1, h2, h3, h4, h5, h6⟩ := h
  obtain ⟨r1, r2, r3⟩ := hr
  refine ⟨r1, (h1.kept r2 (fun k hk hs => h6 k hk hs)).buf, h3.trans r2 (fun _ _ f => f) (fun i hi hs => by have := h5 i hs; omega), ?_, h4, ?_⟩
  · intro k hk
    rcases r3 with r3 | ⟨j, hj, hjs⟩
    · exact h5 k (by rw [← r3, hk])
    · have e : k = j := by rw [hk] at hj; exact Option.some.inj hj
      have := h3.size
      omega
  · intro k hk hz
    rcases r3 with r3 | ⟨j, hj, hjs⟩
    · exact h6 k hz (by rw [← r3, hk])
    · have e : k = j := by rw [hk] at hj; exact Option.some.inj hj
      have := h1.lts k hz
      omega
def ExpRel (wb : World) (a k M : Nat) (z v zz j : Value) (wr : World) : Prop :=
  ∃ i bz bzz, i ≤ M ∧ j = .int .i64 ((i : Nat) : Int) ∧ v = .int .u64 ((vv k M i : Nat) : Int) ∧ ExpSt wb (a ^ ev k M i) z zz bz bzz wr
theorem pow_sq (a e : Nat) : a ^ e * a ^ e = a ^ (2 * e) := by rw [← Nat.pow_add]; congr 1; omega
set_option maxRecDepth 100000 in
set_option maxHeartbeats 4000000 in
theorem expNN_loop (x y : Value) (bx by_ : Option Nat) (a k : Nat) (w : World) (hx : NatAt w x a bx) (hy : NatAt w y k by_) (ha : 2 ≤ a) (ha1 : a < B64) (hk : 2 ≤ k) (hk1 : k < 512) (hsq : a ^ (k / 2) < B64) :
    Calls Tryz.prog 195 #[.slice none 0 0, .pointer none, x, y, .slice none 0 0, .bool false] w (NatRes w none (a ^ k)) := by
  obtain ⟨M, hM⟩ := bitLen_two k hk1 hk
  have ex := dig_one (n := a) (by omega) ha1
  have ey := dig_one (n := k) (by omega) (by unfold B64; omega)
  obtain ⟨kx, cx, rfl, rfl, hkx, hlx, hpx, hsx, hhx⟩ := has_val hx (by omega)
  obtain ⟨ky, cy, rfl, rfl, hky, hly, hpy, hsy, hhy⟩ := has_val hy (by omega)
  have cx0 : w.cell? ⟨kx, 0, none⟩ = some (.int .u64 ((a : Nat) : Int)) := by
    rw [cell_of hkx]
    have := hhx 0 (by rw [ex]; simp)
    rw [ex] at this
    exact this
  have cy0 : w.cell? ⟨ky, 0, none⟩ = some (.int .u64 ((k : Nat) : Int)) := by
    rw [cell_of hky]
    have := hhy 0 (by rw [ey]; simp)
    rw [ey] at this
    exact this
  rw [ex] at hx ⊢
  rw [ey] at hy ⊢
  have HX := Lib.hid hx
  have HYL : Hid (ky < w.heap.size) := hy.lt
  have a1 : ((a : Int) == 1) = false := beqF (by omega)
  have a2 : ((k : Int) == 1) = false := beqF (by omega)
  simp only [List.length_cons, List.length_nil, Nat.zero_add] at *
  clear hx hy hkx hky hhx hhy ex ey
  go_enter_defers Tryz.func195, Tryz.ntmps195
  go_wp2_with fail
  refine (alias_nil _ _ _ _).mono ?_
  rintro e w1 ⟨rfl, n1, rfl⟩
  go_wp2_with fail
  refine (alias_nil _ _ _ _).mono ?_
  rintro e w1 ⟨rfl, n2, rfl⟩
  go_wp2_with fail
  refine (getStack_any _).mono ?_
  rintro e w1 ⟨rfl, hw1⟩
  have hnew : w1.heap = w.heap.push (.cells #[.pointer none] 309) := by rw [hw1]; rfl
  have hkw : Kept (fun _ => False) w w1 := by rw [hw1]; exact ((Kept.refl _ _).drewN _).alloc _
  have hst : w1.cell? ⟨w.heap.size, 0, none⟩ = some (.pointer none) := by
    have : w1.heap[w.heap.size]? = some (.cells #[.pointer none] 309) := by rw [hnew]; simp
    rw [cell_of this]; rfl
  have hlt : w.heap.size < w1.heap.size := by rw [hnew]; simp
  have cx1 : w1.cell? ⟨kx, 0, none⟩ = some (.int .u64 ((a : Nat) : Int)) := by rw [hkw.below.cell HX.out.lt]; exact cx0
  have cy1 : w1.cell? ⟨ky, 0, none⟩ = some (.int .u64 ((k : Nat) : Int)) := by rw [hkw.below.cell HYL.out]; exact cy0
  have HKW := Lib.hid hkw
  have HLT := Lib.hid hlt
  clear hw1 hnew cx0 cy0 hkw hlt
  have esz : (w.drewN (n1 + n2)).heap.size = w.heap.size := rfl
  rw [esz]
  generalize hS : w.heap.size = S at *
  have HS := Lib.hid hS
  clear hS esz
  go_wp2_with fail
  refine (set_any (.slice none 0 0) (.slice (some ⟨kx, 0, none⟩) 1 cx.size) none (some kx) a _ rfl (HX.out.kept HKW.out (fun _ _ h => h)) (Sm.one ha1)).mono ?_
  rintro e w2 ⟨vz, bz, rfl, h⟩
  have cy2 : w2.cell? ⟨ky, 0, none⟩ = some (.int .u64 ((k : Nat) : Int)) := by
    have := (h.2.1.mono (U := fun _ => False) (fun _ _ h => by cases h)).below.cell (p := ⟨ky, 0, none⟩) (by have := HYL.out; have := HLT.out; have := HKW.out.size; show ky < _; omega)
    rw [this]; exact cy1
  have HZ := Lib.hid h
  clear h cx1 cy1
  go_wp2_with fail
  refine (nlz_any k (by unfold B64; omega) _).mono ?_
  rintro e w3 ⟨rfl, rfl⟩
  have hF := ex_facts k M hk1 hk hM
  rw [hM]
  obtain ⟨⟨hM1, hM2⟩, F0, FM, F⟩ := hF
  have e1 : IntKind.u64.wrap ((k : Int) * 2 ^ (63 - M + 1)) = ((vv k M 0 : Nat) : Int) := by
    rw [IntKind.wrap_u64]
    unfold vv
    rw [show 63 - M + 1 = 64 - M + 0 by omega]
    simp
  have e2 : (64 : Int) - (((63 - M : Nat) : Int) + 1) = (M : Int) := by omega
  have HF := Lib.hid F
  have HFM := Lib.hid FM
  have HSTART : Hid (ExpSt w1 (a ^ ev k M 0) vz (.slice none 0 0) bz none w2) := by
    rw [F0, Nat.pow_one]
    obtain ⟨h1, h2, h3⟩ := HZ.out
    refine ⟨h1, rfl, h2.mono (fun _ _ h => by cases h), ?_, by simp, by simp⟩
    intro j hj
    rcases h3 with h3 | ⟨i, hi, his⟩
    · rw [h3] at hj; cases hj
    · rw [hi] at hj; injection hj with hj; omega
  have HE1 := Lib.hid e1
  have HE2 := Lib.hid e2
  have e3 := HE1.out
  have e4 := HE2.out
  clear F FM F0 cy2 HZ e1 e2
  go_wp2_with fail
  clear e3 e4
  go_loopw [0, 15, 19, 21] (fun z v zz j wr => ExpRel w1 a k M z v zz j wr) (fun _ _ _ j _ => M - (intOf j).toNat)
  case atStart => exact ⟨0, bz, none, Nat.zero_le _, rfl, rfl, HSTART.out⟩
  case round =>
    obtain ⟨i, bz', bzz', hi, rfl, rfl, hst⟩ := hrel
    have HST := Lib.hid hst
    clear hst
    by_cases hlt : i < M
    · obtain ⟨f1, f2, f3⟩ := HF.out i hlt
      have hlt2 : a ^ ev k M i < B64 := Nat.lt_of_le_of_lt (Nat.pow_le_pow_right (by omega) (by omega)) hsq
      have hne : a ^ ev k M i ≠ 0 := Nat.pos_iff_ne_zero.1 (Nat.pow_pos (by omega))
      have hv := vv_lt k M i
      have hw : IntKind.u64.wrap (((vv k M i : Nat) : Int) * 2) = ((vv k M (i + 1) : Nat) : Int) := by rw [IntKind.wrap_u64, vv_succ]; omega
      have hand := and_top _ hv
      have HFF := Lib.hid (And.intro f1 f2)
      have HW2 := Lib.hid hw
      have HAND := Lib.hid hand
      have HLT2 := Lib.hid hlt2
      have HNE := Lib.hid hne
      clear f1 f2 f3 hw hand hlt2 hne
      go_wp2_with fail
      refine (sqr_word (some ⟨S, 0, none⟩) u19 u0 bzz' bz' (a ^ ev k M i) wr HST.out.2.1 HST.out.1 HNE.out HLT2.out).mono ?_
      rintro e w3 ⟨v3, b3, rfl, h3⟩
      rw [pow_sq] at h3
      have HST3 := Lib.hid (exp_step HST.out h3)
      clear h3
      have hand := HAND.out
      have hw := HW2.out
      by_cases hbit : vv k M i < 9223372036854775808
      · rw [if_pos hbit] at hand
        have hev := HFF.out.1 hbit
        rw [← hev] at HST3
        clear hbit hev
        obtain ⟨v1, HV1⟩ : ∃ v1, Hid (vv k M (i + 1) = v1) := ⟨_, Lib.hid rfl⟩
        rw [HV1.out] at hw
        clear HW2
        go_wp2_with fail
        go_roundw
        case rel => exact ⟨i + 1, b3, bz', by omega, by go_num, by rw [HV1.out], HST3.out⟩
        case measure => simp [intOf]; omega
      · rw [if_neg hbit] at hand
        have hev := HFF.out.2 (by omega)
        have hx3 : NatAt w3 (.slice (some ⟨kx, 0, none⟩) 1 cx.size) a (some kx) := (HX.out.kept HKW.out (fun _ _ h => h)).kept HST3.out.2.2.1 (fun _ _ h => h)
        have hsm : Sm (a ^ (2 * ev k M i)) := by
          refine Sm.of 2 ?_ (by omega)
          rw [← pow_sq, Nat.pow_two]
          exact Nat.mul_lt_mul'' HLT2.out HLT2.out
        have HX3 := Lib.hid hx3
        have HSM := Lib.hid hsm
        have HEV := Lib.hid hev
        clear hbit hev hx3 hsm
        obtain ⟨v1, HV1⟩ : ∃ v1, Hid (vv k M (i + 1) = v1) := ⟨_, Lib.hid rfl⟩
        rw [HV1.out] at hw
        clear HW2
        go_wp2_with fail
        refine (mul_word (some ⟨S, 0, none⟩) u0 v3 _ bz' b3 (some kx) (a ^ (2 * ev k M i)) a w3 HST3.out.2.1 HST3.out.1 HX3.out (by omega) ha1 HSM.out).mono ?_
        rintro e w4 ⟨v4, b4, rfl, h4⟩
        have HST4 := Lib.hid (exp_step HST3.out h4)
        clear h4
        rw [← Nat.pow_succ, Nat.succ_eq_add_one, ← HEV.out] at HST4
        go_wp2_with fail
        go_roundw
        case rel => exact ⟨i + 1, b4, b3, by omega, by go_num, by rw [HV1.out], HST4.out⟩
        case measure => simp [intOf]; omega
    · have : i = M := by omega
      subst this
      rw [HFM.out] at HST
      have hne : a ^ k ≠ 0 := Nat.pos_iff_ne_zero.1 (Nat.pow_pos (by omega))
      have HNE := Lib.hid hne
      have hstk : wr.cell? ⟨S, 0, none⟩ = some (.pointer none) := by rw [HST.out.2.2.1.below.cell HLT.out]; exact hst
      have HSTK := Lib.hid hstk
      clear hne hstk
      go_wp2_with fail
      go_loop [0, 22] (fun z i => z = u0 ∧ i = .int .i64 (-1)) (fun _ _ => 0)
      case atStart => exact ⟨rfl, rfl⟩
      case round =>
        obtain ⟨rfl, rfl⟩ := hrel
        go_wp2_with fail
        refine (norm_nat HST.out.1 HNE.out).mono ?_
        rintro e w4 ⟨rfl, rfl⟩
        go_wp2_with fail
        try simp only [Exit.inBlock, Exit.then]
        refine leaves_cons (f := 170) (args := #[.pointer (some ⟨S, 0, none⟩)]) (by simp) (by simp [go_sem]) ?_
        refine (stack_free_d S .returning wr HSTK.out).mono ?_
        rintro e u' w4 ⟨rfl, rfl, rfl⟩
        refine ⟨_, results_tmp rfl _ _ _, ?_⟩
        obtain ⟨h1, h2, h3, h4, h5, h6⟩ := HST.out
        refine ⟨u0, bz', rfl, h1, HKW.out.trans h3 (fun _ _ f => f.elim) (fun _ _ f => f.elim), ?_⟩
        cases bz' with
        | none => exact Or.inl rfl
        | some q => exact Or.inr ⟨q, rfl, by have := h4 q rfl; have := HKW.out.size; omega⟩
end Go.Proofs.YtjebnpkebccffaaGreatDoor
namespace Go.Proofs.YtjebnpkebccffaaGreatDoor
open Go.RowKit
theorem set_nil (x : Value) (bx : Option Nat) (n : Nat) (w : World) (hx : NatAt w x n bx) (hn : Sm n) :
    Calls Tryz.prog 134 #[.slice none 0 0, x] w (NatRes w none n) := set_any _ _ none bx n w rfl hx hn
set_option maxRecDepth 100000 in
set_option maxHeartbeats 1000000 in
theorem expNN_one (x y : Value) (bx by_ : Option Nat) (a : Nat) (w : World) (hx : NatAt w x a bx) (hy : NatAt w y 1 by_) (ha : 2 ≤ a) (ha1 : a < B64) :
    Calls Tryz.prog 195 #[.slice none 0 0, .pointer none, x, y, .slice none 0 0, .bool false] w (NatRes w none a) := by
  have ex := dig_one (n := a) (by omega) ha1
  have ey := dig_one (n := 1) (by omega) (by unfold B64; omega)
  obtain ⟨kx, cx, rfl, rfl, hkx, hlx, hpx, hsx, hhx⟩ := has_val hx (by omega)
  obtain ⟨ky, cy, rfl, rfl, hky, hly, hpy, hsy, hhy⟩ := has_val hy (by omega)
  have cx0 : w.cell? ⟨kx, 0, none⟩ = some (.int .u64 ((a : Nat) : Int)) := by
    rw [cell_of hkx]
    have := hhx 0 (by rw [ex]; simp)
    rw [ex] at this
    exact this
  have cy0 : w.cell? ⟨ky, 0, none⟩ = some (.int .u64 1) := by
    rw [cell_of hky]
    have := hhy 0 (by rw [ey]; simp)
    rw [ey] at this
    exact this
  rw [ex] at hx ⊢
  rw [ey] at hy ⊢
  have HX := Lib.hid hx
  have a1 : ((a : Int) == 1) = false := beqF (by omega)
  simp only [List.length_cons, List.length_nil, Nat.zero_add] at *
  clear hx hy hkx hky hhx hhy ex ey
  go_enter_defers Tryz.func195, Tryz.ntmps195
  go_wp2_with fail
  refine (alias_nil _ _ _ _).mono ?_
  rintro e w1 ⟨rfl, n1, rfl⟩
  go_wp2_with fail
  refine (alias_nil _ _ _ _).mono ?_
  rintro e w1 ⟨rfl, n2, rfl⟩
  go_wp2_with fail
  refine (set_nil _ _ _ _ (Drew.natAt ⟨_, rfl⟩ HX.out) (Sm.one ha1)).mono ?_
  rintro e w2 ⟨vz, bz, rfl, h1, h2, h3⟩
  have H := Lib.hid (And.intro h1 (And.intro h2.undrewN h3))
  clear h1 h2 h3
  go_wp2_with fail
  refine ⟨_, results_tmp rfl _ _ _, ?_⟩
  exact ⟨_, _, rfl, H.out.1, H.out.2.1, H.out.2.2⟩
theorem expNN_small (x y : Value) (bx by_ : Option Nat) (a k : Nat) (w : World) (hx : NatAt w x a bx) (hy : NatAt w y k by_) (ha : 2 ≤ a) (ha1 : a < B64) (hk : 1 ≤ k) (hk1 : k < 512) (hsq : a ^ (k / 2) < B64) :
    Calls Tryz.prog 195 #[.slice none 0 0, .pointer none, x, y, .slice none 0 0, .bool false] w (NatRes w none (a ^ k)) := by
  rcases Nat.lt_or_ge k 2 with h | h
  · have : k = 1 := by omega
    subst this
    rw [Nat.pow_one]
    exact expNN_one x y bx by_ a w hx hy ha ha1
  · exact expNN_loop x y bx by_ a k w hx hy ha ha1 h hk1 hsq
set_option maxRecDepth 100000 in
set_option maxHeartbeats 1000000 in
theorem Int_exp_small (z x y : Nat) (a k : Nat) (bx by_ : Option Nat) (rz rx ry : List Value) (Tz Tx Ty : TypeId) (w : World) (hz : IntAt w z 0 none rz Tz) (hx : IntAt w x (a : Int) bx rx Tx) (hy : IntAt w y (k : Int) by_ ry Ty)
    (ha : 2 ≤ a) (ha1 : a < B64) (hk : 1 ≤ k) (hk1 : k < 512) (hsq : a ^ (k / 2) < B64) :
    Calls Tryz.prog 157 #[.pointer (some ⟨z, 0, none⟩), .pointer (some ⟨x, 0, none⟩), .pointer (some ⟨y, 0, none⟩), .pointer none, .bool false] w (IntRes w z none ((a ^ k : Nat) : Int) rz Tz) := by
  obtain ⟨vz, hz1, ⟨rfl, _⟩, hz3⟩ := hz
  obtain ⟨vx, hx1, hx2, hx3⟩ := hx
  obtain ⟨vy, hy1, hy2, hy3⟩ := hy
  obtain ⟨cz0, cz1, fz0, fz1⟩ := int_cells hz1
  obtain ⟨cx0, cx1, _, _⟩ := int_cells hx1
  obtain ⟨cy0, cy1, _, _⟩ := int_cells hy1
  rw [decF (show ¬ ((a : Int) < 0) by omega)] at cx0
  rw [decF (show ¬ ((k : Int) < 0) by omega)] at cy0
  simp only [Int.natAbs_natCast] at hx2 hy2
  have HC := Lib.hid (expNN_small vx vy bx by_ a k w hx2 hy2 ha ha1 hk hk1 hsq)
  have HZ1 := Lib.hid hz1
  have HX1 := Lib.hid hx1
  have ep : 0 < (dig (a ^ k)).length := dig_len_pos (Nat.pos_iff_ne_zero.1 (Nat.pow_pos (by omega)))
  generalize hL : (dig (a ^ k)).length = L at *
  have HL := Lib.hid hL
  have g1 : decide ((0 : Int) < (L : Int)) = true := decT (by omega)
  clear hz1 hx1 hy1 hx2 hy2 hsq hL
  go_enter Tryz.func157, Tryz.ntmps157
  go_wp2_with fail
  refine HC.out.mono ?_
  rintro e w1 ⟨v', b', rfl, h1, h2, h3⟩
  obtain ⟨a', c', rfl⟩ := nat_slice h1
  have ez := h2.at HZ1.out (by simp)
  obtain ⟨d0, d1, d2, d3⟩ := int_cells ez
  have ex := h2.at HX1.out (by simp)
  obtain ⟨e0, _, _, _⟩ := int_cells ex
  rw [decF (show ¬ ((a : Int) < 0) by omega)] at e0
  have H := Lib.hid (And.intro h1 (And.intro h2 h3))
  clear h1 h2 h3 ez ex cx0 cx1 cy0 cy1 cz0 cz1 fz0 fz1
  rw [HL.out]
  go_wp2_with fail
  go_ret
  have := int_fin (n := ((a ^ k : Nat) : Int)) HZ1.out hz3 (by rw [Int.natAbs_natCast]; exact H.out.1) H.out.2.1 H.out.2.2
  rw [decF (show ¬ (((a ^ k : Nat) : Int) < 0) by omega), HL.out] at this
  exact this
set_option maxHeartbeats 1000000 in
theorem Int_Exp_small (z x y : Nat) (a k : Nat) (bx by_ : Option Nat) (rz rx ry : List Value) (Tz Tx Ty : TypeId) (w : World) (hz : IntAt w z 0 none rz Tz) (hx : IntAt w x (a : Int) bx rx Tx) (hy : IntAt w y (k : Int) by_ ry Ty)
    (ha : 2 ≤ a) (ha1 : a < B64) (hk : 1 ≤ k) (hk1 : k < 512) (hsq : a ^ (k / 2) < B64) :
    Calls Tryz.prog 118 #[.pointer (some ⟨z, 0, none⟩), .pointer (some ⟨x, 0, none⟩), .pointer (some ⟨y, 0, none⟩), .pointer none] w (IntRes w z none ((a ^ k : Nat) : Int) rz Tz) := by
  have H := Lib.hid (Int_exp_small z x y a k bx by_ rz rx ry Tz Tx Ty w hz hx hy ha ha1 hk hk1 hsq)
  clear hz hx hy hsq
  go_enter Tryz.func118, Tryz.ntmps118
  go_wp2_with fail
  refine H.out.mono ?_
  rintro e w1 ⟨rfl, h⟩
  have H := Lib.hid h
  clear h
  go_wp2_with fail
  go_ret
  exact ⟨rfl, H.out⟩
end Go.Proofs.YtjebnpkebccffaaGreatDoor
