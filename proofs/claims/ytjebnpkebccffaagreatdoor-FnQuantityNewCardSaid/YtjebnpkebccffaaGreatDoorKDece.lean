import Derived.Test.YtjebnpkebccffaaGreatDoorKDecd
set_option linter.unusedSimpArgs false
set_option linter.unusedVariables false
set_option linter.unusedSectionVars false
namespace Go.Proofs.YtjebnpkebccffaaGreatDoor
open Go.RowKit
set_option maxHeartbeats 1000000 in
theorem RoundUp_any (w : World) : Calls Tryz.prog 67 #[] w fun e w' => e = .returned (.iface 175 (.agg #[.bool true, .func (.func 105) #[] #[]])) ∧ w = w' := by
  go_enter Tryz.func67, Tryz.ntmps67
  go_wp2_with fail
  go_ret
  exact ⟨rfl, rfl⟩
set_option maxHeartbeats 1000000 in
theorem roundUp_zero (z q rA : Nat) (rB : Value) (n s : Int) (bq br : Option Nat) (w : World) (hz : DecAt w z 0 0 none) (hq : DecAt w q n s bq) (hr : IntAt w rA 0 br [] 109) (hs : Sep z none q bq) (hsr : Sep z none rA br) (hn : Sm n.natAbs) :
    Calls Tryz.prog 105 #[.pointer (some ⟨z, 0, none⟩), .pointer (some ⟨q, 0, none⟩), .pointer (some ⟨rA, 0, none⟩), rB] w (DecRes w z none n s) := by
  have HC := Lib.hid (Dec_Set_other z q 0 n 0 s none bq w hz hq hs.1 (by simp) hs hn)
  have HR := Lib.hid hr
  clear hz hq hr hs hn
  go_enter Tryz.func105, Tryz.ntmps105
  go_wp2_with fail
  refine HC.out.mono ?_
  rintro e w1 ⟨rfl, b', h1, h2, h3⟩
  have hr1 : IntAt w1 rA 0 br [] 109 := sep_kept HR.out hsr (h2.mono (fun _ _ h => by rcases h with h | h; exact h; cases h))
  have HR1 := Lib.hid hr1
  have HF : Hid (DecRes w z none n s (.returned (.pointer (some ⟨z, 0, none⟩))) w1) := ⟨rfl, b', h1, h2, h3⟩
  clear hr1 h1 h2 h3
  go_wp2_with fail
  refine (Int_Sign rA 0 br [] 109 w1 HR1.out).mono ?_
  rintro e w2 ⟨rfl, rfl⟩
  have e0 : sgn 0 = 0 := rfl
  rw [e0]
  go_wp2_with fail
  go_ret
  exact HF.out
def ruObj : Obj := .cells #[.bool true, .func (.func 105) #[] #[]] 175
set_option maxHeartbeats 1000000 in
theorem rndr_Use (w : World) : Calls Tryz.prog 337 #[.agg #[.bool true, .func (.func 105) #[] #[]]] w fun e w' => e = .returned (.bool true) ∧ w' = w.alloc ruObj := by
  go_enter Tryz.func337, Tryz.ntmps337
  go_wp2_with fail
  go_ret
  exact ⟨rfl, rfl⟩
set_option maxHeartbeats 1000000 in
theorem sclr_Scale (s : Int) (x y : Value) (w : World) : Calls Tryz.prog 342 #[.agg #[.int .i32 s], x, y] w fun e w' => e = .returned (.int .i32 s) ∧ w' = w.alloc (.cells #[.int .i32 s] 230) := by
  go_enter Tryz.func342, Tryz.ntmps342
  go_wp2_with fail
  go_ret
  exact ⟨rfl, rfl⟩
set_option maxHeartbeats 1000000 in
theorem rndr_Round_zero (z q rA : Nat) (rB : Value) (n s : Int) (bq br : Option Nat) (w : World) (hz : DecAt w z 0 0 none) (hq : DecAt w q n s bq) (hr : IntAt w rA 0 br [] 109) (hs : Sep z none q bq) (hsr : Sep z none rA br) (hn : Sm n.natAbs) :
    Calls Tryz.prog 336 #[.agg #[.bool true, .func (.func 105) #[] #[]], .pointer (some ⟨z, 0, none⟩), .pointer (some ⟨q, 0, none⟩), .pointer (some ⟨rA, 0, none⟩), rB] w (DecRes w z none n s) := by
  have ka : Kept (fun _ => False) w (w.alloc ruObj) := (Kept.refl _ _).alloc _
  have HC := Lib.hid (roundUp_zero z q rA rB n s bq br (w.alloc ruObj) (IntAt.old hz ka) (IntAt.old hq ka) (hr.old ka) hs hsr hn)
  have KA := Lib.hid ka
  clear hz hq hr ka
  go_enter Tryz.func336, Tryz.ntmps336
  go_wp2_with fail
  refine HC.out.mono ?_
  rintro e w1 ⟨rfl, b', h1, h2, h3⟩
  have HF : Hid (DecRes w z none n s (.returned (.pointer (some ⟨z, 0, none⟩))) w1) := ⟨rfl, b', h1, KA.out.trans h2 (fun _ _ f => f.elim) (fun _ _ h => h), by
    rcases h3 with h3 | ⟨j, hj, hjs⟩
    · exact Or.inl h3
    · exact Or.inr ⟨j, hj, by simp at hjs; omega⟩⟩
  clear h1 h2 h3
  go_wp2_with fail
  go_ret
  exact HF.out
def QuoOK (w : World) (x y : Nat) (q d s : Int) : Prop :=
  ∀ (w' : World) (z rn rd : Nat), Kept (fun _ => False) w w' → w.heap.size ≤ z → w.heap.size ≤ rn → w.heap.size ≤ rd → QArgs w' z rn rd →
    Calls Tryz.prog 180 #[.pointer (some ⟨z, 0, none⟩), .pointer (some ⟨x, 0, none⟩), .pointer (some ⟨y, 0, none⟩), .int .i32 s, .bool true, .pointer (some ⟨rn, 0, none⟩), .pointer (some ⟨rd, 0, none⟩)] w' (QRD w' z rn rd q 0 d s)
theorem m_sc (v : Value) (w : World) : (method 525 230 (.agg #[v]) "Scale").run Tryz.prog w = .ok (342, .agg #[v]) w := by kernel_rfl
theorem m_ur (u v : Value) (w : World) : (method 525 175 (.agg #[u, v]) "UseRemainder").run Tryz.prog w = .ok (337, .agg #[u, v]) w := by kernel_rfl
theorem m_rd (u v : Value) (w : World) : (method 525 175 (.agg #[u, v]) "Round").run Tryz.prog w = .ok (336, .agg #[u, v]) w := by kernel_rfl
theorem qargs_new (w : World) : QArgs (((w.alloc zDec).alloc zInt).alloc zInt) w.heap.size (w.heap.size + 1) (w.heap.size + 1 + 1) := by
  have k1 : ∀ (w : World) (o : Obj), Kept (fun _ => False) w (w.alloc o) := fun w o => (Kept.refl _ _).alloc _
  have a1 := zDec_at w
  have a2 := zInt_at (w.alloc zDec)
  have a3 := zInt_at ((w.alloc zDec).alloc zInt)
  have e1 : (w.alloc zDec).heap.size = w.heap.size + 1 := by simp
  have e2 : ((w.alloc zDec).alloc zInt).heap.size = w.heap.size + 1 + 1 := by simp
  rw [e1] at a2
  rw [e2] at a3
  exact ⟨IntAt.old (IntAt.old a1 (k1 _ _)) (k1 _ _), a2.old (k1 _ _), a3, by omega, by omega, by omega⟩
theorem kept3 (w : World) : Kept (fun _ => False) w (((w.alloc zDec).alloc zInt).alloc zInt) := (((Kept.refl _ _).alloc _).alloc _).alloc _
set_option maxRecDepth 100000 in
set_option maxHeartbeats 2000000 in
theorem quo_zero (z x y : Nat) (nz sz q d s : Int) (bz : Option Nat) (w : World) (hz : DecAt w z nz sz bz) (hQ : QuoOK w x y q d s) (hq : Sm q.natAbs) :
    Calls Tryz.prog 143 #[.pointer (some ⟨z, 0, none⟩), .pointer (some ⟨x, 0, none⟩), .pointer (some ⟨y, 0, none⟩), .iface 230 (.agg #[.int .i32 s]), .iface 175 (.agg #[.bool true, .func (.func 105) #[] #[]])] w (DecRes w z bz q s) := by
  have HZ := Lib.hid hz
  have HQ := Lib.hid hQ
  have HS := Lib.hid hq
  have q1 := fun v w => m_sc v w
  have q2 := fun u v w => m_ur u v w
  have q3 := fun u v w => m_rd u v w
  clear hz hQ hq
  go_enter Tryz.func143, Tryz.ntmps143
  go_wp2_with fail
  refine (sclr_Scale s _ _ w).mono ?_
  rintro e w1 ⟨rfl, hw1⟩
  have k1 : Kept (fun _ => False) w w1 := by rw [hw1]; exact (Kept.refl _ _).alloc _
  have K1 := Lib.hid k1
  clear hw1 k1
  go_wp2_with fail
  refine (rndr_Use w1).mono ?_
  rintro e w2 ⟨rfl, hw2⟩
  have k2 : Kept (fun _ => False) w w2 := kept_new' K1.out (by rw [hw2]; exact (Kept.refl _ _).alloc _)
  have K2 := Lib.hid k2
  clear hw2 k2 K1
  go_wp2_with fail
  have hsz := K2.out.size
  refine (HQ.out _ w2.heap.size (w2.heap.size + 1) (w2.heap.size + 1 + 1) (kept_new' K2.out (kept3 w2)) (by omega) (by omega) (by omega) (qargs_new w2)).mono ?_
  rintro e w3 ⟨rfl, bq, br, bd, h1, h2, h3, hk, g1, g2, g3⟩
  have hsz3 : w2.heap.size + 3 ≤ w3.heap.size := by have := hk.size; simp at this; omega
  have g1' : ∀ k, bq = some k → w2.heap.size ≤ k := fun k h => by have := g1 k h; simp at this; omega
  have g2' : ∀ k, br = some k → w2.heap.size ≤ k := fun k h => by have := g2 k h; simp at this; omega
  have k3 : Kept (fun _ => False) w w3 := (kept_new' K2.out (kept3 w2)).trans hk (fun _ _ f => f) (fun i hi h => by omega)
  have A1 := Lib.hid h1
  have A2 := Lib.hid h2
  have K3 := Lib.hid k3
  have G1 := Lib.hid g1'
  have HSZ := Lib.hid hsz3
  clear h1 h2 h3 hk g1 g2 g3 g1' g2' k3 hsz3 HQ hsz
  go_wp2_with fail
  have ka : Kept (fun _ => False) w3 (w3.alloc zDec) := (Kept.refl _ _).alloc _
  refine (rndr_Round_zero w3.heap.size w2.heap.size (w2.heap.size + 1) _ q s bq br (w3.alloc zDec) (zDec_at w3) (IntAt.old A1.out ka) (A2.out.old ka) (Sep.fresh (w := w3) (Nat.le_refl _) (by simp) (by have := HSZ.out; omega) (IntAt.lts A1.out)) (Sep.fresh (w := w3) (Nat.le_refl _) (by simp) (by have := HSZ.out; omega) A2.out.lts) HS.out).mono ?_
  rintro e w4 ⟨rfl, b4, h1, h2, h3⟩
  have k4 : Kept (fun _ => False) w w4 := (kept_new' K3.out ka).trans h2 (fun _ _ f => f) (fun i hi h => by
    have := K3.out.size
    rcases h with h | h
    · omega
    · cases h)
  have hb4 : ∀ k, b4 = some k → w3.heap.size ≤ k := by
    intro k hk
    rcases h3 with h3 | ⟨j, hj, hjs⟩
    · rw [h3] at hk; cases hk
    · rw [hj] at hk; injection hk with hk; simp at hjs; omega
  have hzl := IntAt.lt HZ.out
  have hsep : Sep z bz w3.heap.size b4 := (Sep.fresh (w := w3) (Nat.le_refl _) hb4 (by have := K3.out.size; omega) (fun k hk => by have := IntAt.lts HZ.out k hk; have := K3.out.size; omega)).symm
  have A4 := Lib.hid h1
  have K4 := Lib.hid k4
  have SP := Lib.hid hsep
  clear h1 h2 h3 k4 hb4 hsep ka A1 A2 K3 G1 HSZ
  go_wp2_with fail
  refine (Dec_Set_other z w3.heap.size nz q sz s bz b4 w4 (IntAt.old HZ.out K4.out) A4.out SP.out.1 SP.out.2.1 SP.out HS.out).mono ?_
  rintro e w5 ⟨rfl, b5, h1, h2, h3⟩
  have HF : Hid (DecRes w z bz q s (.returned (.pointer (some ⟨z, 0, none⟩))) w5) := ⟨rfl, b5, h1, K4.out.trans h2 (fun _ _ f => f.elim) (fun _ _ h => h), by
    have := K4.out.size
    rcases h3 with h3 | ⟨j, hj, hjs⟩
    · exact Or.inl h3
    · exact Or.inr ⟨j, hj, by omega⟩⟩
  clear h1 h2 h3
  go_wp2_with fail
  go_ret
  exact HF.out
end Go.Proofs.YtjebnpkebccffaaGreatDoor
namespace Go.Proofs.YtjebnpkebccffaaGreatDoor
open Go.RowKit
abbrev RU : Value := .iface 175 (.agg #[.bool true, .func (.func 105) #[] #[]])
theorem qargs_sep {w : World} {z rn rd p : Nat} {b : Option Nat} (hz : w.heap.size ≤ z) (hn : w.heap.size ≤ rn) (hd : w.heap.size ≤ rd) (hp : p < w.heap.size) (hb : ∀ k, b = some k → k < w.heap.size) : Sep z none p b ∧ Sep rn none p b ∧ Sep rd none p b :=
  ⟨Sep.fresh hz (by simp) hp hb, Sep.fresh hn (by simp) hp hb, Sep.fresh hd (by simp) hp hb⟩
theorem quoOK_same {w : World} {x y : Nat} {n s : Int} {b c : Option Nat} (hx : DecAt w x n s b) (hy : DecAt w y 1 0 c) (hb : -1000000000 ≤ s ∧ s ≤ 1000000000) (hn : n.natAbs < B64) : QuoOK w x y n 1 s := by
  intro w' z rn rd hk hz hrn hrd hq
  have := quoRem_same z x y rn rd n 1 s s b c w' hq (IntAt.old hx hk) (IntAt.old hy hk) (qargs_sep hz hrn hrd (IntAt.lt hx) (IntAt.lts hx)) (qargs_sep hz hrn hrd (IntAt.lt hy) (IntAt.lts hy)) rfl (by omega) (by omega)
    (divOK_word hn (by unfold B64; decide) (by omega)) (by rw [Int.tmod_one]; exact Sm.one (by unfold B64; decide)) (Sm.one (by unfold B64; decide))
  rw [Int.tdiv_one, Int.tmod_one] at this
  exact this
theorem quoOK_up {w : World} {x y k M : Nat} {n sc s : Int} {b c : Option Nat} (hM : 10 ^ k = M) (hk1 : 1 ≤ k) (hk : k < 20) (hs : s - sc = (k : Int)) (hx : DecAt w x n sc b) (hy : DecAt w y 1 0 c) (hb : -1000000000 ≤ s ∧ s ≤ 1000000000 ∧ -1000000000 ≤ sc ∧ sc ≤ 1000000000) (hn : (n * (M : Int)).natAbs < B64) (hfs : Sm n.natAbs) : QuoOK w x y (n * (M : Int)) 1 s := by
  intro w' z rn rd hkw hz hrn hrd hq
  have := quoRem_up k M hM hk1 hk z x y rn rd n 1 sc s b c w' hq (IntAt.old hx hkw) (IntAt.old hy hkw) (qargs_sep hz hrn hrd (IntAt.lt hx) (IntAt.lts hx)) (qargs_sep hz hrn hrd (IntAt.lt hy) (IntAt.lts hy)) hs hb (by omega)
    (divOK_word hn (by unfold B64; decide) (by omega)) (by rw [Int.tmod_one]; exact Sm.one (by unfold B64; decide)) (Sm.one (by unfold B64; decide)) hfs
  rw [Int.tdiv_one, Int.tmod_one] at this
  exact this
theorem quoOK_down {w : World} {x y k M : Nat} {n sc s : Int} {b c : Option Nat} (hM : 10 ^ k = M) (hk1 : 1 ≤ k) (hk : k < 20) (hs : sc - s = (k : Int)) (hx : DecAt w x n sc b) (hy : DecAt w y 1 0 c) (hb : -1000000000 ≤ s ∧ s ≤ 1000000000 ∧ -1000000000 ≤ sc ∧ sc ≤ 1000000000) (hn : n.natAbs < B64) (hr : n.tmod (M : Int) = 0) : QuoOK w x y (n.tdiv (M : Int)) (M : Int) s := by
  intro w' z rn rd hkw hz hrn hrd hq
  have hM0 : M ≠ 0 := by have := Nat.pow_pos (n := k) (show 0 < 10 by omega); omega
  have hMw : M < B64 := by have := pow10_word hk; omega
  have := quoRem_down k M hM hk1 hk z x y rn rd n 1 sc s b c w' hq (IntAt.old hx hkw) (IntAt.old hy hkw) (qargs_sep hz hrn hrd (IntAt.lt hx) (IntAt.lts hx)) (qargs_sep hz hrn hrd (IntAt.lt hy) (IntAt.lts hy)) hs hb (by rw [Int.one_mul]; omega)
    (by rw [Int.one_mul]; exact divOK_word hn (by rw [Int.natAbs_natCast]; exact hMw) (by omega)) (by rw [Int.one_mul, hr]; exact Sm.one (by unfold B64; decide)) (by rw [Int.one_mul, Int.natAbs_natCast]; exact Sm.one hMw) (Sm.one (by unfold B64; decide))
  rw [Int.one_mul, hr] at this
  exact this
set_option maxHeartbeats 1000000 in
theorem QuoRound_zero (z x y : Nat) (nz sz q d s : Int) (bz : Option Nat) (w : World) (hz : DecAt w z nz sz bz) (hQ : QuoOK w x y q d s) (hq : Sm q.natAbs) :
    Calls Tryz.prog 104 #[.pointer (some ⟨z, 0, none⟩), .pointer (some ⟨x, 0, none⟩), .pointer (some ⟨y, 0, none⟩), .int .i32 s, RU] w (DecRes w z bz q s) := by
  have H := Lib.hid (quo_zero z x y nz sz q d s bz w hz hQ hq)
  clear hz hQ hq
  go_enter Tryz.func104, Tryz.ntmps104
  go_wp2_with fail
  refine H.out.mono ?_
  intro e w1 h
  have he := h.1
  subst he
  have H := Lib.hid h
  clear h
  go_wp2_with fail
  go_ret
  exact H.out
set_option maxHeartbeats 1000000 in
theorem Dec_Round_of (z x : Nat) (nz sz n sc q d s : Int) (bz b : Option Nat) (w : World) (hz : DecAt w z nz sz bz) (hx : DecAt w x n sc b) (hQ : ∀ (w' : World) (y : Nat) (c : Option Nat), DecAt w' x n sc b → DecAt w' y 1 0 c → QuoOK w' x y q d s) (hq : Sm q.natAbs) :
    Calls Tryz.prog 66 #[.pointer (some ⟨z, 0, none⟩), .pointer (some ⟨x, 0, none⟩), .int .i32 s, RU] w (DecRes w z bz q s) := by
  have HZ := Lib.hid hz
  have HX := Lib.hid hx
  have HQ := Lib.hid hQ
  have HS := Lib.hid hq
  clear hz hx hQ hq
  go_enter Tryz.func66, Tryz.ntmps66
  go_wp2_with fail
  refine (NewDec_any 1 0 w (by decide)).mono ?_
  rintro e w1 ⟨y, c, rfl, hy, ay, ky, qy⟩
  have AY := Lib.hid ay
  have KY := Lib.hid ky
  clear hy ay ky qy
  go_wp2_with fail
  refine (QuoRound_zero z x y nz sz q d s bz w1 (IntAt.old HZ.out KY.out) (HQ.out w1 y c (IntAt.old HX.out KY.out) AY.out) HS.out).mono ?_
  rintro e w5 ⟨rfl, b5, h1, h2, h3⟩
  have HF : Hid (DecRes w z bz q s (.returned (.pointer (some ⟨z, 0, none⟩))) w5) := ⟨rfl, b5, h1, KY.out.trans h2 (fun _ _ f => f.elim) (fun _ _ h => h), by
    have := KY.out.size
    rcases h3 with h3 | ⟨j, hj, hjs⟩
    · exact Or.inl h3
    · exact Or.inr ⟨j, hj, by omega⟩⟩
  clear h1 h2 h3
  go_wp2_with fail
  go_ret
  exact HF.out
end Go.Proofs.YtjebnpkebccffaaGreatDoor
namespace Go.Proofs.YtjebnpkebccffaaGreatDoor
open Go.RowKit
set_option maxHeartbeats 1000000 in
theorem Int_Int64_pos (x n : Nat) (b : Option Nat) (r : List Value) (T : TypeId) (w : World) (hx : IntAt w x (n : Int) b r T) (hn : n < 9223372036854775808) :
    Calls Tryz.prog 101 #[.pointer (some ⟨x, 0, none⟩)] w fun e w' => e = .returned (.int .i64 (n : Int)) ∧ w = w' := by
  obtain ⟨vx, hx1, hx2, hx3⟩ := hx
  obtain ⟨c0, c1, _, _⟩ := int_cells hx1
  rw [decF (Int.not_lt.2 (Int.natCast_nonneg n))] at c0
  rw [Int.natAbs_natCast] at hx2
  have hl := low64_any vx b n w hx2
  rw [Nat.mod_eq_of_lt (by unfold B64; omega)] at hl
  have HL := Lib.hid hl
  have e1 : IntKind.i64.wrap (n : Int) = (n : Int) := by rw [IntKind.wrap_i64]; omega
  clear hx1 hx2 hl
  go_enter Tryz.func101, Tryz.ntmps101
  go_wp2_with fail
  refine HL.out.mono ?_
  rintro e w1 ⟨rfl, rfl⟩
  go_wp2_with fail
  go_ret
  exact ⟨rfl, rfl⟩
theorem cmpZ_self (n : Int) : cmpZ n n = 0 := by unfold cmpZ; rw [if_neg (by omega), if_neg (by omega)]
set_option maxRecDepth 100000 in
set_option maxHeartbeats 1000000 in
theorem Dec_Unscaled_pos (x n : Nat) (sc : Int) (b : Option Nat) (w : World) (hx : DecAt w x (n : Int) sc b) (hn : n < 9223372036854775808) :
    Calls Tryz.prog 65 #[.pointer (some ⟨x, 0, none⟩)] w fun e w' => e = .returned (.tuple #[.int .i64 (n : Int), .bool true]) ∧ Kept (fun _ => False) w w' := by
  have HX := Lib.hid hx
  have HI := Lib.hid (Int_Int64_pos x n b _ 112 w hx hn)
  obtain ⟨v, h1, _⟩ := hx
  obtain ⟨c0, c1, _, _⟩ := int_cells h1
  clear h1
  go_enter Tryz.func65, Tryz.ntmps65
  go_wp2_with fail
  refine HI.out.mono ?_
  rintro e w1 ⟨rfl, rfl⟩
  have HS : Hid (Calls Tryz.prog 102 #[.pointer (some ⟨w.heap.size, 0, none⟩), .int .i64 (n : Int)] ((w.alloc zInt).drew) (IntRes ((w.alloc zInt).drew) w.heap.size none (n : Int) [] 109)) := Int_SetInt64_pos w.heap.size n 0 none [] 109 _ ((zInt_at w).drewN 1) (by omega)
  have HC : Hid (∀ e w3, IntRes ((w.alloc zInt).drew) w.heap.size none (n : Int) [] 109 e w3 → e = .returned (.pointer (some ⟨w.heap.size, 0, none⟩)) ∧ Kept (fun _ => False) w w3 ∧ Calls Tryz.prog 103 #[.pointer (some ⟨w.heap.size, 0, none⟩), .pointer (some ⟨x, 0, none⟩)] w3 fun e w' => e = .returned (.int .i64 0) ∧ Drew w3 w') := by
    rintro e w3 ⟨rfl, b', h1, h2, h3⟩
    have hk : Kept (fun _ => False) w w3 := (((Kept.refl (fun _ => False) w).alloc zInt).drew).trans h2 (fun _ _ f => f) (fun i hi h => by
      rcases h with h | h
      · omega
      · cases h)
    have hl := IntAt.lt HX.out
    have := Int_Cmp w.heap.size x (n : Int) (n : Int) b' b [] _ 109 112 w3 h1 (IntAt.old HX.out hk) (by omega)
    rw [cmpZ_self] at this
    exact ⟨rfl, hk, this⟩
  clear HI
  go_wp2_with fail
  go_region_with (first | (go_at_call 102; refine HS.out.mono ?_; intro e w3 h; obtain ⟨rfl, hk, hc⟩ := HC.out e w3 h; have HK := Lib.hid hk; have HC3 := Lib.hid hc; clear h hk hc) | (go_at_call 103; refine HC3.out.mono ?_; rintro e w4 ⟨rfl, hd⟩; have HD := Lib.hid hd; clear hd))
  all_goals
    go_wp2_with fail
    go_ret2
    exact ⟨rfl, HK.out.trans HD.out.kept (fun _ _ f => f) (fun _ _ f => f)⟩
end Go.Proofs.YtjebnpkebccffaaGreatDoor
namespace Go.Proofs.YtjebnpkebccffaaGreatDoor
open Go.RowKit
set_option maxHeartbeats 1000000 in
theorem maxAllowed_any (w : World) : Calls Tryz.prog 69 #[] w fun e w' => ∃ p b, e = .returned (.agg #[.pointer (some ⟨p, 0, none⟩)]) ∧ w.heap.size ≤ p ∧ DecAt w' p 9223372036854775807 0 b ∧ Kept (fun _ => False) w w' ∧ (∀ k, b = some k → w.heap.size ≤ k) := by
  go_enter Tryz.func69, Tryz.ntmps69
  go_wp2_with fail
  refine (NewDec_any 9223372036854775807 0 _ (by decide)).mono ?_
  rintro e w1 ⟨p, b, rfl, hp, a1, k1, q1⟩
  have hb0 : w1.heap[w.heap.size]? = some (.cells #[.pointer none] 63 (0, 0)) := k1.at (heap_alloc_new w _) (fun f => f)
  have c0 : w1.cell? ⟨w.heap.size, 0, none⟩ = some (.pointer none) := by rw [cell_of hb0]; rfl
  have f0 := frozen_of hb0 0
  have hp' : w.heap.size + 1 ≤ p := by simpa using hp
  have q1' : ∀ k, b = some k → w.heap.size + 1 ≤ k := fun k h => by simpa using q1 k h
  have HF : Hid (∀ v, DecAt (w1.setCell ⟨w.heap.size, 0, none⟩ v) p 9223372036854775807 0 b ∧ Kept (fun _ => False) w (w1.setCell ⟨w.heap.size, 0, none⟩ v)) := by
    intro v
    refine ⟨IntAt.move a1 (heap_set_ne (by omega)) (fun k hk => heap_set_ne (by have := q1' k hk; omega)), ?_⟩
    exact (((Kept.refl (fun _ => False) w).alloc _).trans k1 (fun _ _ f => f) (fun _ _ f => f)).setCell ⟨w.heap.size, 0, none⟩ v (fun h => by simp at h)
  have HP : Hid (w.heap.size ≤ p ∧ ∀ k, b = some k → w.heap.size ≤ k) := ⟨by omega, fun k h => by have := q1' k h; omega⟩
  have hcell : (w1.setCell ⟨w.heap.size, 0, none⟩ (.pointer (some ⟨p, 0, none⟩))).cell? ⟨w.heap.size, 0, none⟩ = some (.pointer (some ⟨p, 0, none⟩)) := by
    rw [cell_of (heap_set_same hb0 0 _)]; rfl
  clear a1 k1 hb0 hp hp' q1 q1'
  go_wp2_with fail
  refine bodyPost_ret (v := .agg #[.pointer (some ⟨p, 0, none⟩)]) ?_ rfl ⟨p, b, rfl, HP.out.1, (HF.out _).1, (HF.out _).2, HP.out.2⟩
  simp [results, Tryz.f69, loadVar, go_sem, hcell]
def QtyAt (w : World) (p d : Nat) (s fmt : ByteArray) : Prop := w.heap[p]? = some (.cells #[.int .i64 0, .int .i32 0, .pointer (some ⟨d, 0, none⟩), .string s, .string fmt] 66 (0, 0))
theorem qty_cells {w : World} {p d : Nat} {s fmt : ByteArray} (h : QtyAt w p d s fmt) : w.cell? ⟨p, 2, none⟩ = some (.pointer (some ⟨d, 0, none⟩)) ∧ w.cell? ⟨p, 4, none⟩ = some (.string fmt) :=
  ⟨by rw [cell_of h]; rfl, by rw [cell_of h]; rfl⟩
theorem d_neq (a : Addr) (w : World) : (binOp .neq 61 (.pointer (some a)) (.pointer none)).run Tryz.prog w = .ok (.bool true) w := by kernel_rfl
set_option maxHeartbeats 1000000 in
theorem IsZero_any (p d : Nat) (s fmt : ByteArray) (n sc : Int) (b : Option Nat) (w : World) (h : QtyAt w p d s fmt) (hd : DecAt w d n sc b) (hn : 0 < n) :
    Calls Tryz.prog 82 #[.pointer (some ⟨p, 0, none⟩)] w fun e w' => e = .returned (.bool false) ∧ w = w' := by
  obtain ⟨c2, c4⟩ := qty_cells h
  have HD := Lib.hid hd
  have e1 : sgn n = 1 := by unfold sgn; rw [if_neg (by omega), if_neg (by omega)]
  clear h hd
  go_enter Tryz.func82, Tryz.ntmps82
  go_wp2_with fail
  refine (Dec_Sign d n sc b w HD.out).mono ?_
  rintro e w1 ⟨rfl, rfl⟩
  rw [e1]
  go_wp2_with fail
  go_ret
  exact ⟨rfl, rfl⟩
set_option maxRecDepth 100000 in
set_option maxHeartbeats 1000000 in
theorem CmpInt64_nine (p d : Nat) (s fmt : ByteArray) (n y : Int) (b : Option Nat) (w : World) (h : QtyAt w p d s fmt) (hd : DecAt w d n 9 b) (hy : y.natAbs ≤ 1000000) :
    Calls Tryz.prog 112 #[.pointer (some ⟨p, 0, none⟩), .int .i64 y] w (CmpRes w (cmpZ n (y * 1000000000))) := by
  obtain ⟨c2, c4⟩ := qty_cells h
  have HD := Lib.hid hd
  have HN : Hid (Calls Tryz.prog 71 #[.int .i64 y, .int .i32 0] w.drew (NewD w.drew y 0)) := NewDec_any y 0 w.drew (by omega)
  have HC : Hid (∀ e w1, NewD w.drew y 0 e w1 → ∃ q, e = .returned (.pointer (some ⟨q, 0, none⟩)) ∧ Kept (fun _ => False) w w1 ∧ Calls Tryz.prog 68 #[.pointer (some ⟨d, 0, none⟩), .pointer (some ⟨q, 0, none⟩)] w1 (CmpRes w1 (cmpZ n (y * 1000000000)))) := by
    rintro e w1 ⟨q, c, rfl, hq, aq, kq, qq⟩
    refine ⟨q, rfl, kq.undrew, ?_⟩
    have hy1 : (dig y.natAbs).length ≤ 50000 := Nat.le_trans (dig_len_le (k := 1) (by rw [Nat.pow_one]; unfold B64; omega)) (by omega)
    exact Dec_Cmp_gt d q 9 1000000000 (by decide) n y 9 0 b c w1 (IntAt.old HD.out kq.undrew) aq (by omega) (by omega) (by omega) (by omega) (by omega) hy1
  generalize cmpZ n (y * 1000000000) = R at *
  obtain ⟨cN, _⟩ : w.cell? ⟨p, 2, none⟩ = some (.pointer (some ⟨d, 0, none⟩)) ∧ True := ⟨c2, trivial⟩
  have c2d : w.drew.cell? ⟨p, 2, none⟩ = some (.pointer (some ⟨d, 0, none⟩)) := c2
  have HCC : Hid (∀ w1, Kept (fun _ => False) w w1 → w1.cell? ⟨p, 2, none⟩ = some (.pointer (some ⟨d, 0, none⟩))) := by
    intro w1 hk
    rw [cell_of (hk.at h (fun f => f))]; rfl
  clear h hd cN
  go_enter Tryz.func112, Tryz.ntmps112
  go_wp2_with fail
  go_region_with (first | (go_at_call 71; refine HN.out.mono ?_; intro e w1 h; obtain ⟨q, rfl, hk, hc⟩ := HC.out e w1 h; have cw := HCC.out w1 hk; have HK := Lib.hid hk; have HC1 := Lib.hid hc; clear h hk hc) | (go_at_call 68; refine HC1.out.mono ?_; rintro e w2 ⟨rfl, hk2⟩; have HK2 := Lib.hid (kept_new' HK.out hk2); clear hk2))
  all_goals
    go_wp2_with fail
    go_ret
    exact ⟨rfl, HK2.out⟩
end Go.Proofs.YtjebnpkebccffaaGreatDoor
namespace Go.Proofs.YtjebnpkebccffaaGreatDoor
open Go.RowKit
set_option maxHeartbeats 400000 in
theorem infScale_any (s : Int) (w : World) (hs : -1000 ≤ s ∧ s ≤ 1000) : Calls Tryz.prog 57 #[.int .i32 s] w fun e w' => e = .returned (.int .i32 (-s)) ∧ w = w' := by
  have e1 : IntKind.i32.wrap (-s) = -s := by rw [IntKind.wrap_i32]; omega
  go_enter Tryz.func57, Tryz.ntmps57
  go_wp2_with fail
  go_ret
  exact ⟨rfl, rfl⟩
set_option maxRecDepth 100000 in
set_option maxHeartbeats 1000000 in
theorem infAsScale_nine (d : Nat) (q : Nat) (b : Option Nat) (w : World) (hd : DecAt w d ((q * 1000000000 : Nat) : Int) 9 b) (hq : q * 1000000000 < B64) :
    Calls Tryz.prog 148 #[.agg #[.pointer (some ⟨d, 0, none⟩)], .int .i32 0] w fun e w' => ∃ t c, e = .returned (.tuple #[.agg #[.pointer (some ⟨t, 0, none⟩)], .bool true]) ∧ w.heap.size ≤ t ∧ DecAt w' t (q : Int) 0 c ∧ Kept (fun _ => False) w w' ∧ (∀ k, c = some k → w.heap.size ≤ k) := by
  have HD := Lib.hid hd
  clear hd
  have hwk : Kept (fun _ => False) w (((w.alloc (.cells #[.pointer (some ⟨d, 0, none⟩)] 63)).alloc (.cells #[.pointer none] 63)).alloc zDec) := (((Kept.refl _ _).alloc _).alloc _).alloc _
  have hdl := IntAt.lt HD.out
  have hz := zDec_at ((w.alloc (.cells #[.pointer (some ⟨d, 0, none⟩)] 63)).alloc (.cells #[.pointer none] 63))
  have e2 : ((w.alloc (.cells #[.pointer (some ⟨d, 0, none⟩)] 63)).alloc (.cells #[.pointer none] 63)).heap.size = w.heap.size + 1 + 1 := by simp
  rw [e2] at hz
  have b0 : (((w.alloc (.cells #[.pointer (some ⟨d, 0, none⟩)] 63)).alloc (.cells #[.pointer none] 63)).alloc zDec).heap[w.heap.size]? = some (.cells #[.pointer (some ⟨d, 0, none⟩)] 63 (0, 0)) := by
    rw [Below.heap_alloc _ _ _ (by simp; omega), Below.heap_alloc _ _ _ (by simp)]; exact heap_alloc_new _ _
  have b1 : (((w.alloc (.cells #[.pointer (some ⟨d, 0, none⟩)] 63)).alloc (.cells #[.pointer none] 63)).alloc zDec).heap[w.heap.size + 1]? = some (.cells #[.pointer none] 63 (0, 0)) := by
    rw [Below.heap_alloc _ _ _ (by simp)]
    have := heap_alloc_new (w.alloc (.cells #[.pointer (some ⟨d, 0, none⟩)] 63)) (.cells #[.pointer none] 63)
    simpa using this
  have HWK := Lib.hid hwk
  have HZ := Lib.hid hz
  have HB0 := Lib.hid b0
  have HB1 := Lib.hid b1
  clear hwk hz b0 b1 e2
  go_enter Tryz.func148, Tryz.ntmps148
  go_wp2_with fail
  simp only [zDec] at HWK HZ HB0 HB1
  generalize hW : (((w.alloc (.cells #[.pointer (some ⟨d, 0, none⟩)] 63)).alloc (.cells #[.pointer none] 63)).alloc (.cells #[.bool false, .slice none 0 0, .int .i32 0] 112)) = W at *
  generalize hS : w.heap.size = S at *
  have HSZ := Lib.hid hS
  have hSW : S + 3 ≤ W.heap.size := by rw [← hW, ← hS]; simp
  have ct : W.cell? ⟨S, 0, none⟩ = some (.pointer (some ⟨d, 0, none⟩)) := by rw [cell_of HB0.out]; rfl
  have ctd : W.drew.cell? ⟨S, 0, none⟩ = some (.pointer (some ⟨d, 0, none⟩)) := ct
  have hDW : DecAt W.drew d ((q * 1000000000 : Nat) : Int) 9 b := IntAt.drewN (IntAt.old HD.out HWK.out) 1
  have hZW : DecAt W.drew (S + 1 + 1) 0 0 none := IntAt.drewN HZ.out 1
  have HR : Hid (Calls Tryz.prog 66 #[.pointer (some ⟨S + 1 + 1, 0, none⟩), .pointer (some ⟨d, 0, none⟩), .int .i32 0, RU] W.drew (DecRes W.drew (S + 1 + 1) none (q : Int) 0)) := by
    refine Dec_Round_of (S + 1 + 1) d 0 0 ((q * 1000000000 : Nat) : Int) 9 (q : Int) 1000000000 0 none b W.drew hZW hDW (fun w' y c hx hy => ?_) (Sm.one (by omega))
    have := quoOK_down (k := 9) (M := 1000000000) (by decide) (by omega) (by omega) (by omega) hx hy (by omega) (by rw [Int.natAbs_natCast]; exact hq) (s := 0) (by
      have : ((q * 1000000000 : Nat) : Int).tmod ((1000000000 : Nat) : Int) = (((q * 1000000000) % 1000000000 : Nat) : Int) := rfl
      rw [this, Nat.mul_mod_left]; rfl)
    have e : ((q * 1000000000 : Nat) : Int).tdiv ((1000000000 : Nat) : Int) = (q : Int) := by
      have : ((q * 1000000000 : Nat) : Int).tdiv ((1000000000 : Nat) : Int) = (((q * 1000000000) / 1000000000 : Nat) : Int) := rfl
      rw [this, Nat.mul_div_cancel _ (by omega)]
    rw [e] at this
    exact this
  clear hDW hZW hW
  have HAFT : Hid (∀ e w9, DecRes W.drew (S + 1 + 1) none (q : Int) 0 e w9 → e = .returned (.pointer (some ⟨S + 1 + 1, 0, none⟩)) ∧ w9.cell? ⟨S, 0, none⟩ = some (.pointer (some ⟨d, 0, none⟩)) ∧ w9.heap[S + 1]? = some (.cells #[.pointer none] 63 (0, 0)) ∧ Kept (fun _ => False) w w9 ∧ (∃ c, DecAt w9 (S + 1 + 1) (q : Int) 0 c ∧ ∀ k, c = some k → S + 3 ≤ k) ∧ Calls Tryz.prog 68 #[.pointer (some ⟨S + 1 + 1, 0, none⟩), .pointer (some ⟨d, 0, none⟩)] w9 (CmpRes w9 0)) := by
    rintro e w9 ⟨rfl, c, h1, h2, h3⟩
    have h2 := h2.undrew
    have hk : Kept (fun _ => False) w w9 := HWK.out.trans h2 (fun _ _ f => f) (fun i hi h => by
      rcases h with h | h
      · omega
      · cases h)
    have n0 : ¬ (S = S + 1 + 1 ∨ (none : Option Nat) = some S) := by intro h; rcases h with h | h; omega; cases h
    have n1 : ¬ (S + 1 = S + 1 + 1 ∨ (none : Option Nat) = some (S + 1)) := by intro h; rcases h with h | h; omega; cases h
    have hc : ∀ k, c = some k → S + 3 ≤ k := by
      intro k hk'
      rcases h3 with h3 | ⟨j, hj, hjs⟩
      · rw [h3] at hk'; cases hk'
      · rw [hj] at hk'; injection hk' with hk'
        have : W.heap.size ≤ j := hjs
        omega
    have hcmp := Dec_Cmp_lt (S + 1 + 1) d 9 1000000000 (by decide) (q : Int) ((q * 1000000000 : Nat) : Int) 0 9 c b w9 h1 (IntAt.old HD.out hk) (by omega) (by omega) (by omega) (by omega) (by omega) (Nat.le_trans (dig_len_le (k := 1) (by rw [Nat.pow_one, Int.natAbs_natCast]; unfold B64 at *; omega)) (by omega))
    have e0 : cmpZ ((q : Int) * ((1000000000 : Nat) : Int)) ((q * 1000000000 : Nat) : Int) = 0 := by rw [← Int.natCast_mul]; exact cmpZ_self _
    rw [e0] at hcmp
    exact ⟨rfl, by rw [cell_of (h2.at HB0.out n0)]; rfl, h2.at HB1.out n1, hk, ⟨c, h1, hc⟩, hcmp⟩
  go_region_with (first | (go_at_call 57; refine (infScale_any 0 _ (by omega)).mono ?_; rintro e w9 ⟨rfl, rfl⟩) | (go_at_call 67; refine (RoundUp_any _).mono ?_; rintro e w9 ⟨rfl, rfl⟩) | (go_at_call 66; refine HR.out.mono ?_; intro e w9 h; obtain ⟨rfl, c9, h1, h2, h3, h4⟩ := HAFT.out e w9 h; have G1 := Lib.hid h1; have G2 := Lib.hid h2; have G3 := Lib.hid h3; have G4 := Lib.hid h4; clear h h1 h2 h3 h4))
  all_goals
    go_wp2_with fail
    refine G4.out.mono ?_
    rintro e w5 ⟨rfl, hk5⟩
    have hb5 := hk5.at G1.out (fun f => f)
    have c5 : w5.cell? ⟨S + 1, 0, none⟩ = some (.pointer none) := by rw [cell_of hb5]; rfl
    have f5 := frozen_of hb5 0
    have hcell : (w5.setCell ⟨S + 1, 0, none⟩ (.pointer (some ⟨S + 1 + 1, 0, none⟩))).cell? ⟨S + 1, 0, none⟩ = some (.pointer (some ⟨S + 1 + 1, 0, none⟩)) := by
      rw [cell_of (heap_set_same hb5 0 _)]; rfl
    have K5 := Lib.hid hk5
    clear hk5 hb5
    go_wp2_with fail
    obtain ⟨c, g3, g4⟩ := G3.out
    have hS' := HSZ.out
    refine bodyPost_ret (v := .tuple #[.agg #[.pointer (some ⟨S + 1 + 1, 0, none⟩)], .bool true]) ?_ rfl ⟨S + 1 + 1, c, rfl, by omega, IntAt.move (IntAt.old g3 K5.out) (heap_set_ne (by omega)) (fun k hk => heap_set_ne (by have := g4 k hk; omega)), ((G2.out.trans K5.out (fun _ _ f => f) (fun _ _ f => f)).setCell ⟨S + 1, 0, none⟩ _ (fun h => by simp at h; omega)), fun k hk => by have := g4 k hk; omega⟩
    simp [results, Tryz.f148, loadVar, go_sem, hcell]
end Go.Proofs.YtjebnpkebccffaaGreatDoor
