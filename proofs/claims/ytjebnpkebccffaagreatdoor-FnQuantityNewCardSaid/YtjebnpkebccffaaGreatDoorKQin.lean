import Derived.Test.YtjebnpkebccffaaGreatDoorKDcw
import Derived.Test.YtjebnpkebccffaaGreatDoorKCex
import Derived.Test.YtjebnpkebccffaaGreatDoorKPqa
import Derived.Test.YtjebnpkebccffaaGreatDoorKQw
set_option linter.unusedSimpArgs false
set_option linter.unusedVariables false
set_option linter.unusedSectionVars false
namespace Go.Proofs.YtjebnpkebccffaaGreatDoor
open Go.RowKit
def QiAt (w : World) (p : Nat) (n s : Int) (fmt : ByteArray) : Prop := w.heap[p]? = some (.cells #[.int .i64 n, .int .i32 s, .pointer none, .string ⟨#[]⟩, .string fmt] 66 (0, 0))
theorem qi_cells {w : World} {p : Nat} {n s : Int} {fmt : ByteArray} (h : QiAt w p n s fmt) : w.cell? ⟨p, 0, none⟩ = some (.int .i64 n) ∧ w.cell? ⟨p, 1, none⟩ = some (.int .i32 s) ∧ w.cell? ⟨p, 2, none⟩ = some (.pointer none) ∧ w.cell? ⟨p, 4, none⟩ = some (.string fmt) :=
  ⟨by rw [cell_of h]; rfl, by rw [cell_of h]; rfl, by rw [cell_of h]; rfl, by rw [cell_of h]; rfl⟩
theorem d_nnil (w : World) : (binOp .neq 61 (.pointer none) (.pointer none)).run Tryz.prog w = .ok (.bool false) w := by kernel_rfl
theorem IsZeroI (p : Nat) (n s : Int) (fmt : ByteArray) (w : World) (h : QiAt w p n s fmt) : Calls Tryz.prog 82 #[.pointer (some ⟨p, 0, none⟩)] w fun e w' => e = .returned (.bool (n == 0)) ∧ w = w' := by
  obtain ⟨c0, c1, c2, c4⟩ := qi_cells h
  have q1 := fun w => d_nnil w
  clear h
  go_enter Tryz.func82, Tryz.ntmps82
  go_wp2_with fail
  go_ret
  exact ⟨rfl, rfl⟩
def cmpV (n s c : Int) : Int := if 0 ≤ s then cmpZ (n * ((10 ^ s.toNat : Nat) : Int)) c else cmpZ n (c * ((10 ^ (-s).toNat : Nat) : Int))
theorem CmpI (p : Nat) (n s c : Int) (fmt : ByteArray) (w : World) (h : QiAt w p n s fmt) (hn : -9223372036854775808 ≤ n ∧ n ≤ 9223372036854775807) (hc : c.natAbs ≤ 1000000) (hc0 : c ≠ 0) (hs : -39 ≤ s ∧ s ≤ 19) :
    Calls Tryz.prog 112 #[.pointer (some ⟨p, 0, none⟩), .int .i64 c] w (CmpRes w (cmpV n s c)) := by
  obtain ⟨c0, c1, c2, c4⟩ := qi_cells h
  have q1 := fun w => d_nnil w
  have HC := Lib.hid (Cmp_any n s c w hn hc hc0 hs)
  have hv : cmpV n s c = if 0 ≤ s then cmpZ (n * ((10 ^ s.toNat : Nat) : Int)) c else cmpZ n (c * ((10 ^ (-s).toNat : Nat) : Int)) := rfl
  rw [← hv] at HC
  generalize cmpV n s c = V at *
  clear h hv hn hc hc0 hs
  go_enter Tryz.func112, Tryz.ntmps112
  go_wp2_with fail
  refine HC.out.mono ?_
  rintro e w1 ⟨rfl, hk⟩
  go_wp2_with fail
  go_ret
  exact ⟨rfl, hk⟩
def AscRes (w : World) (v sc : Int) (k : Bool) (e : Ending) (w' : World) : Prop := e = .returned (.tuple #[.agg #[.int .i64 v, .int .i32 sc], .bool k]) ∧ Kept (fun _ => False) w w'
set_option maxRecDepth 100000 in
set_option maxHeartbeats 1000000 in
theorem AsScale_up (n s : Int) (w : World) (hs : 0 ≤ s ∧ s ≤ 1000) : Calls Tryz.prog 149 #[.agg #[.int .i64 n, .int .i32 s], .int .i32 0] w (AscRes w n s true) := by
  have q1 : decide (0 ≤ s) = true := decT (by omega)
  have hb1 := heap_alloc_new w (.cells #[.int .i64 n, .int .i32 s] 60)
  have hb1' := ((Kept.refl (fun _ => False) (w.alloc (.cells #[.int .i64 n, .int .i32 s] 60))).alloc (.cells #[.int .i64 0, .int .i32 0] 60)).at hb1 (fun f => f)
  have hb2 := heap_alloc_new (w.alloc (.cells #[.int .i64 n, .int .i32 s] 60)) (.cells #[.int .i64 0, .int .i32 0] 60)
  have ee : (w.alloc (.cells #[.int .i64 n, .int .i32 s] 60)).heap.size = w.heap.size + 1 := by simp
  rw [ee] at hb2
  have k0 : Kept (fun _ => False) w ((w.alloc (.cells #[.int .i64 n, .int .i32 s] 60)).alloc (.cells #[.int .i64 0, .int .i32 0] 60)) := ((Kept.refl _ _).alloc _).alloc _
  generalize hW : (w.alloc (.cells #[.int .i64 n, .int .i32 s] 60)).alloc (.cells #[.int .i64 0, .int .i32 0] 60) = W at *
  obtain ⟨a0, a1⟩ := cells2' hb1'
  obtain ⟨g0, g1⟩ := cells2' hb2
  have f0 := frozen_of hb2 0
  have f1 := frozen_of hb2 1
  have hc2 := heap_set_same (heap_set_same hb2 0 (.int .i64 n)) 1 (.int .i32 s)
  have k2 : Kept (fun _ => False) w ((W.setCell ⟨w.heap.size + 1, 0, none⟩ (.int .i64 n)).setCell ⟨w.heap.size + 1, 1, none⟩ (.int .i32 s)) := (k0.setCell _ _ (by intro h; simp at h; try omega)).setCell _ _ (by intro h; simp at h; try omega)
  generalize hY : (W.setCell ⟨w.heap.size + 1, 0, none⟩ (.int .i64 n)).setCell ⟨w.heap.size + 1, 1, none⟩ (.int .i32 s) = Y at *
  have HY := Lib.hid (cells2' hc2)
  have KD := Lib.hid k2
  clear hb1 hb1' hb2 hc2 ee k0 k2
  go_enter Tryz.func149, Tryz.ntmps149
  go_wp2_with fail
  obtain ⟨y0, y1⟩ := HY.out
  refine bodyPost_ret (v := .tuple #[.agg #[.int .i64 n, .int .i32 s], .bool true]) ?_ rfl ⟨rfl, KD.out⟩
  simp [results, Tryz.f149, loadVar, go_sem, y0, y1]
set_option maxRecDepth 100000 in
set_option maxHeartbeats 1000000 in
theorem AsScale_dn (n s v : Int) (k : Bool) (w : World) (hs : -1000 ≤ s ∧ s < 0) (hneg : ∀ w, Calls Tryz.prog 115 #[.int .i64 n, .int .i32 (-s)] w (IntOk w v k)) : Calls Tryz.prog 149 #[.agg #[.int .i64 n, .int .i32 s], .int .i32 0] w (AscRes w v 0 k) := by
  have q1 : decide (0 ≤ s) = false := decF (by omega)
  have q2 : wrap32 (-s) = -s := by unfold wrap32; omega
  have HNEG := Lib.hid hneg
  clear hneg
  have hb1 := heap_alloc_new w (.cells #[.int .i64 n, .int .i32 s] 60)
  have hb1' := ((Kept.refl (fun _ => False) (w.alloc (.cells #[.int .i64 n, .int .i32 s] 60))).alloc (.cells #[.int .i64 0, .int .i32 0] 60)).at hb1 (fun f => f)
  have hb2 := heap_alloc_new (w.alloc (.cells #[.int .i64 n, .int .i32 s] 60)) (.cells #[.int .i64 0, .int .i32 0] 60)
  have ee : (w.alloc (.cells #[.int .i64 n, .int .i32 s] 60)).heap.size = w.heap.size + 1 := by simp
  rw [ee] at hb2
  have k0 : Kept (fun _ => False) w ((w.alloc (.cells #[.int .i64 n, .int .i32 s] 60)).alloc (.cells #[.int .i64 0, .int .i32 0] 60)) := ((Kept.refl _ _).alloc _).alloc _
  generalize hW : (w.alloc (.cells #[.int .i64 n, .int .i32 s] 60)).alloc (.cells #[.int .i64 0, .int .i32 0] 60) = W at *
  obtain ⟨a0, a1⟩ := cells2' hb1'
  obtain ⟨g0, g1⟩ := cells2' hb2
  have f0 := frozen_of hb2 0
  have f1 := frozen_of hb2 1
  have hc2 := heap_set_same (heap_set_same hb2 0 (.int .i64 v)) 1 (.int .i32 0)
  have k2 : Kept (fun _ => False) w ((W.setCell ⟨w.heap.size + 1, 0, none⟩ (.int .i64 v)).setCell ⟨w.heap.size + 1, 1, none⟩ (.int .i32 0)) := (k0.setCell _ _ (by intro h; simp at h; try omega)).setCell _ _ (by intro h; simp at h; try omega)
  generalize hY : (W.setCell ⟨w.heap.size + 1, 0, none⟩ (.int .i64 v)).setCell ⟨w.heap.size + 1, 1, none⟩ (.int .i32 0) = Y at *
  have HY := Lib.hid (cells2' hc2)
  have KD := Lib.hid k2
  clear hb1 hb1' hb2 hc2 ee k0 k2
  go_enter Tryz.func149, Tryz.ntmps149
  go_wp2_with fail
  refine (HNEG.out _).mono ?_
  rintro e w1 ⟨rfl, rfl⟩
  go_wp2_with fail
  obtain ⟨y0, y1⟩ := HY.out
  refine bodyPost_ret (v := .tuple #[.agg #[.int .i64 v, .int .i32 0], .bool k]) ?_ rfl ⟨rfl, KD.out⟩
  simp [results, Tryz.f149, loadVar, go_sem, y0, y1]
def AscI (w : World) (v sc : Int) (k : Bool) (e : Ending) (w' : World) : Prop := e = .returned (.tuple #[.iface 60 (.agg #[.int .i64 v, .int .i32 sc]), .bool k]) ∧ Kept (fun _ => False) w w'
theorem AsScaleI (p : Nat) (n s v sc : Int) (k : Bool) (fmt : ByteArray) (w : World) (h : QiAt w p n s fmt) (ha : Calls Tryz.prog 149 #[.agg #[.int .i64 n, .int .i32 s], .int .i32 0] w (AscRes w v sc k)) :
    Calls Tryz.prog 113 #[.pointer (some ⟨p, 0, none⟩), .int .i32 0] w (AscI w v sc k) := by
  obtain ⟨c0, c1, c2, c4⟩ := qi_cells h
  have q1 := fun w => d_nnil w
  have HA := Lib.hid ha
  clear h ha
  go_enter Tryz.func113, Tryz.ntmps113
  go_wp2_with fail
  refine HA.out.mono ?_
  rintro e w1 ⟨rfl, hk⟩
  go_wp2_with fail
  go_ret2
  exact ⟨rfl, hk⟩
theorem AsCanI (p : Nat) (n s : Int) (fmt : ByteArray) (w : World) (t : ByteArray) (E : Int) (h : QiAt w p n s fmt) (ha : Calls Tryz.prog 151 #[.agg #[.int .i64 n, .int .i32 s], .slice none 0 0] w (CanB w t E)) :
    Calls Tryz.prog 114 #[.pointer (some ⟨p, 0, none⟩), .slice none 0 0] w (CanB w t E) := by
  obtain ⟨c0, c1, c2, c4⟩ := qi_cells h
  have q1 := fun w => d_nnil w
  have HA := Lib.hid ha
  clear h ha
  go_enter Tryz.func114, Tryz.ntmps114
  go_wp2_with fail
  refine HA.out.mono ?_
  rintro e w1 ⟨v, rfl, hb, hk⟩
  have HB := Lib.hid hb
  clear hb
  go_wp2_with fail
  go_ret2
  exact ⟨v, rfl, HB.out, hk⟩
set_option maxHeartbeats 1000000 in
theorem AsScaled_up (n : Int) (s : Nat) (w : World) (hs : s ≤ 1000) (h1 : -9223372036854775807 ≤ n ∧ n ≤ 9223372036854775807) (P : Int) (hP : P = n * 10 ^ s) (hp : -9223372036854775807 ≤ P ∧ P ≤ 9223372036854775807) :
    Calls Tryz.prog 77 #[.agg #[.int .i64 n, .int .i32 (s : Int)], .int .i32 0] w fun e w' => e = .returned (.tuple #[.int .i64 P, .bool true]) ∧ Kept (fun _ => False) w w' := by
  have q1 : decide ((s : Int) < 0) = false := decF (by omega)
  have q2 : wrap32 (s : Int) = (s : Int) := by unfold wrap32; omega
  have hb := heap_alloc_new w (.cells #[.int .i64 n, .int .i32 (s : Int)] 60)
  have k0 : Kept (fun _ => False) w (w.alloc (.cells #[.int .i64 n, .int .i32 (s : Int)] 60)) := (Kept.refl _ _).alloc _
  have HM := Lib.hid (fun w => posScale_any n s hs w h1.1 h1.2)
  rw [← hP] at HM
  have HP := Lib.hid hp
  generalize hW : w.alloc (.cells #[.int .i64 n, .int .i32 (s : Int)] 60) = W at *
  obtain ⟨a0, a1⟩ := cells2' hb
  have KD := Lib.hid k0
  clear hb k0 hP hp h1
  go_enter Tryz.func77, Tryz.ntmps77
  go_wp2_with fail
  refine (HM.out _).mono ?_
  intro e w1 hr
  obtain ⟨rfl, hk1⟩ := hr.fits HP.out.1 HP.out.2
  have K1 := Lib.hid (KD.out.same hk1)
  clear hr hk1
  go_wp2_with fail
  go_ret2
  exact ⟨rfl, K1.out⟩
set_option maxHeartbeats 1000000 in
theorem B1024I (n : Int) (s : Nat) (V m : Int) (k : Nat) (w : World) (hs : Calls Tryz.prog 77 #[.agg #[.int .i64 n, .int .i32 (s : Int)], .int .i32 0] (w.alloc (.cells #[.int .i64 n, .int .i32 (s : Int)] 60)) fun e w' => e = .returned (.tuple #[.int .i64 V, .bool true]) ∧ Kept (fun _ => False) (w.alloc (.cells #[.int .i64 n, .int .i32 (s : Int)] 60)) w')
    (hf : ∀ w, Calls Tryz.prog 191 #[.int .i64 V, .int .i64 1024] w (FacRes w m k)) (hm : -9223372036854775808 ≤ m ∧ m ≤ 9223372036854775807) (ht : Tab10 w) :
    Calls Tryz.prog 317 #[.agg #[.int .i64 n, .int .i32 (s : Int)], .slice none 0 0] w (CanB w (itoaB m) (k : Int)) := by
  have hb := heap_alloc_new w (.cells #[.int .i64 n, .int .i32 (s : Int)] 60)
  have k0 : Kept (fun _ => False) w (w.alloc (.cells #[.int .i64 n, .int .i32 (s : Int)] 60)) := (Kept.refl _ _).alloc _
  have HS := Lib.hid hs
  have HF := Lib.hid hf
  have HT := Lib.hid ht
  have HM := Lib.hid hm
  generalize hW : w.alloc (.cells #[.int .i64 n, .int .i32 (s : Int)] 60) = W at *
  obtain ⟨a0, a1⟩ := cells2' hb
  have KD := Lib.hid k0
  obtain ⟨T, hT⟩ : ∃ T, T = itoaB m := ⟨_, rfl⟩
  have HA : Hid (∀ w', Kept (fun _ => False) w w' → Calls Tryz.prog 192 #[.slice none 0 0, .int .i64 m, .int .i64 10] w' (BytRes w' T)) := fun w' hk => by
    rw [hT]
    exact AppendInt_nil _ w' HM.out.1 HM.out.2 (HT.out.old hk)
  rw [← hT]
  clear hb k0 hs hf ht hm hT
  go_enter Tryz.func317, Tryz.ntmps317
  go_wp2_with fail
  refine HS.out.mono ?_
  rintro e w1 ⟨rfl, hk1⟩
  have K1 := Lib.hid (KD.out.same hk1)
  clear hk1
  go_wp2_with fail
  refine (HF.out _).mono ?_
  rintro e w2 ⟨rfl, rfl⟩
  go_wp2_with fail
  refine (HA.out _ K1.out).mono ?_
  rintro e w2 ⟨v, rfl, hby, hk2⟩
  have K2 := Lib.hid (K1.out.same hk2)
  have HBY := Lib.hid hby
  clear hby hk2
  go_wp2_with fail
  go_ret2
  exact ⟨v, rfl, HBY.out, K2.out⟩
end Go.Proofs.YtjebnpkebccffaaGreatDoor
namespace Go.Proofs.YtjebnpkebccffaaGreatDoor
open Go.RowKit
def TxtAt (w : World) (v : Value) (t : ByteArray) : Prop := (v = .slice none 0 0 ∧ t = ⟨#[]⟩) ∨ BytesAt w v t
def ConT (w : World) (t : ByteArray) (e : Ending) (w' : World) : Prop := ∃ v ok, e = .returned (.tuple #[v, .bool ok]) ∧ TxtAt w' v t ∧ Kept (fun _ => False) w w'
theorem conT_of {w w' : World} {t : ByteArray} {e : Ending} (h : ConsRes w t e w') : ConT w t e w' := by
  obtain ⟨v, h1, h2, h3⟩ := h
  exact ⟨v, true, h1, Or.inr h2, h3⟩
set_option maxRecDepth 100000 in
theorem construct_exp0 (d : Nat) (w : World) : Calls Tryz.prog 327 #[.pointer (some ⟨d, 0, none⟩), .int .i32 10, .int .i32 0, fExp] w (ConT w ⟨#[]⟩) := by
  unfold fExp
  go_enter Tryz.func327, Tryz.ntmps327
  go_wp2_with fail
  go_ret2
  exact ⟨_, _, rfl, Or.inl ⟨rfl, rfl⟩, Kept.refl _ _⟩
theorem m_b1024I (n s : Int) (w : World) : (Go.method 525 60 (.agg #[.int .i64 n, .int .i32 s]) "AsCanonicalBase1024Bytes").run Tryz.prog w = .ok (317, .agg #[.int .i64 n, .int .i32 s]) w := by kernel_rfl
def CanonRes (w : World) (a b : ByteArray) (e : Ending) (w' : World) : Prop := ∃ v1 v2, e = .returned (.tuple #[v1, v2]) ∧ BytesAt w' v1 a ∧ TxtAt w' v2 b ∧ Kept (fun _ => False) w w'
theorem QiAt.old {w w' : World} {p : Nat} {n s : Int} {fmt : ByteArray} (h : QiAt w p n s fmt) (hk : Kept (fun _ => False) w w') : QiAt w' p n s fmt := hk.at h (fun f => f)
set_option maxRecDepth 100000 in
set_option maxHeartbeats 1000000 in
theorem CanonI_zero (p : Nat) (s : Int) (fmt : ByteArray) (w : World) (h : QiAt w p 0 s fmt) : Calls Tryz.prog 76 #[.pointer (some ⟨p, 0, none⟩), .slice none 0 0] w (CanonRes w ⟨#[48]⟩ ⟨#[]⟩) := by
  have HQ := Lib.hid h
  have hcv := conv_lit w #[.int .u8 48] 1
  have hb := heap_alloc_new w (.cells #[.int .u8 48] 5 (1, 1 + 1))
  have HF : Hid (BytesAt (w.alloc (.cells #[.int .u8 48] 5 (1, 1 + 1))) (.slice (some ⟨w.heap.size, 0, none⟩) 1 1) ⟨#[48]⟩) := ⟨w.heap.size, 1, _, (1, 1 + 1), rfl, hb, fun j hj => by
    have h' : j < 1 := hj
    match j, h' with
    | 0, _ => rfl⟩
  have K0 : Hid (Kept (fun _ => False) w (w.alloc (.cells #[.int .u8 48] 5 (1, 1 + 1)))) := (Kept.refl _ _).alloc _
  have hsz : (#[.int .u8 48] : Array Value).size = 1 := rfl
  rw [hsz] at hcv
  generalize hX : w.alloc (.cells #[.int .u8 48] 5 (1, 1 + 1)) = X at *
  clear h hb
  go_enter Tryz.func76, Tryz.ntmps76
  go_wp2_with fail
  refine (IsZeroI p 0 s _ w HQ.out).mono ?_
  rintro e w1 ⟨rfl, rfl⟩
  go_wp2_with fail
  go_ret2
  exact ⟨.slice (some ⟨w.heap.size, 0, none⟩) 1 1, .slice none 0 0, rfl, HF.out, Or.inl ⟨rfl, rfl⟩, K0.out⟩
set_option maxRecDepth 100000 in
set_option maxHeartbeats 2000000 in
theorem CanonI_dec (p : Nat) (n s E : Int) (t T : ByteArray) (w : World) (h : QiAt w p n s ⟨#[68, 101, 99, 105, 109, 97, 108, 83, 73]⟩) (hn0 : n ≠ 0) (hcan : ∀ w', Kept (fun _ => False) w w' → Calls Tryz.prog 114 #[.pointer (some ⟨p, 0, none⟩), .slice none 0 0] w' (CanB w' t E)) (hcon : ∀ dd w', Suffixer w' dd → Calls Tryz.prog 327 #[.pointer (some ⟨dd, 0, none⟩), .int .i32 10, .int .i32 E, fDec] w' (ConT w' T)) :
    Calls Tryz.prog 76 #[.pointer (some ⟨p, 0, none⟩), .slice none 0 0] w (CanonRes w t T) := by
  obtain ⟨c0, c1, c2, c4⟩ := qi_cells h
  have hz : (n == 0) = false := beqF hn0
  have HQ := Lib.hid h
  have HCAN := Lib.hid hcan
  have HCON := Lib.hid hcon
  have q2 := fun d w => m_cons d w
  have KX : Hid (Kept (fun _ => False) w w) := Kept.refl _ _
  clear h hcan hcon hn0
  go_enter Tryz.func76, Tryz.ntmps76
  go_wp2_with fail
  refine (IsZeroI p n s _ w HQ.out).mono ?_
  rintro e w1 ⟨rfl, rfl⟩
  go_wp2_with fail
  refine (HCAN.out _ KX.out).mono ?_
  rintro e w4 ⟨v1, rfl, hb, hk⟩
  have K4 := Lib.hid (KX.out.same hk)
  have B4 := Lib.hid hb
  clear hb hk
  go_wp2_with fail
  refine (newSuffixer_any w4).mono ?_
  rintro e w5 ⟨dd, rfl, hdd, hsf, hk⟩
  have K5 := Lib.hid (K4.out.same hk)
  have B5 := Lib.hid (B4.out.kept hk (fun _ _ _ _ f => f))
  have HC := Lib.hid (HCON.out dd w5 hsf)
  simp only [fDec, fExp] at HC
  clear hk hsf
  go_wp2_with fail
  refine HC.out.mono ?_
  rintro e w6 ⟨v, ok, rfl, hv, hk⟩
  have HV := Lib.hid hv
  clear hv
  go_wp2_with fail
  go_ret2
  exact ⟨_, v, rfl, B5.out.kept hk (fun _ _ _ _ f => f), HV.out, K5.out.same hk⟩
set_option maxRecDepth 100000 in
set_option maxHeartbeats 2000000 in
theorem CanonI_exp (p : Nat) (n s E : Int) (t T : ByteArray) (w : World) (h : QiAt w p n s ⟨#[68, 101, 99, 105, 109, 97, 108, 69, 120, 112, 111, 110, 101, 110, 116]⟩) (hn0 : n ≠ 0) (hcan : ∀ w', Kept (fun _ => False) w w' → Calls Tryz.prog 114 #[.pointer (some ⟨p, 0, none⟩), .slice none 0 0] w' (CanB w' t E)) (hcon : ∀ dd w', Suffixer w' dd → Calls Tryz.prog 327 #[.pointer (some ⟨dd, 0, none⟩), .int .i32 10, .int .i32 E, fExp] w' (ConT w' T)) :
    Calls Tryz.prog 76 #[.pointer (some ⟨p, 0, none⟩), .slice none 0 0] w (CanonRes w t T) := by
  obtain ⟨c0, c1, c2, c4⟩ := qi_cells h
  have hz : (n == 0) = false := beqF hn0
  have HQ := Lib.hid h
  have HCAN := Lib.hid hcan
  have HCON := Lib.hid hcon
  have q2 := fun d w => m_cons d w
  have KX : Hid (Kept (fun _ => False) w w) := Kept.refl _ _
  clear h hcan hcon hn0
  go_enter Tryz.func76, Tryz.ntmps76
  go_wp2_with fail
  refine (IsZeroI p n s _ w HQ.out).mono ?_
  rintro e w1 ⟨rfl, rfl⟩
  go_wp2_with fail
  refine (HCAN.out _ KX.out).mono ?_
  rintro e w4 ⟨v1, rfl, hb, hk⟩
  have K4 := Lib.hid (KX.out.same hk)
  have B4 := Lib.hid hb
  clear hb hk
  go_wp2_with fail
  refine (newSuffixer_any w4).mono ?_
  rintro e w5 ⟨dd, rfl, hdd, hsf, hk⟩
  have K5 := Lib.hid (K4.out.same hk)
  have B5 := Lib.hid (B4.out.kept hk (fun _ _ _ _ f => f))
  have HC := Lib.hid (HCON.out dd w5 hsf)
  simp only [fDec, fExp] at HC
  clear hk hsf
  go_wp2_with fail
  refine HC.out.mono ?_
  rintro e w6 ⟨v, ok, rfl, hv, hk⟩
  have HV := Lib.hid hv
  clear hv
  go_wp2_with fail
  go_ret2
  exact ⟨_, v, rfl, B5.out.kept hk (fun _ _ _ _ f => f), HV.out, K5.out.same hk⟩
set_option maxRecDepth 100000 in
set_option maxHeartbeats 2000000 in
theorem CanonI_bin_small (p : Nat) (n s E C1 C2 : Int) (t T : ByteArray) (w : World) (h : QiAt w p n s ⟨#[66, 105, 110, 97, 114, 121, 83, 73]⟩) (hn0 : n ≠ 0) (hcan : ∀ w', Kept (fun _ => False) w w' → Calls Tryz.prog 114 #[.pointer (some ⟨p, 0, none⟩), .slice none 0 0] w' (CanB w' t E)) (hcon : ∀ dd w', Suffixer w' dd → Calls Tryz.prog 327 #[.pointer (some ⟨dd, 0, none⟩), .int .i32 10, .int .i32 E, fDec] w' (ConT w' T)) (hm1 : ∀ w', QiAt w' p n s ⟨#[66, 105, 110, 97, 114, 121, 83, 73]⟩ → Calls Tryz.prog 112 #[.pointer (some ⟨p, 0, none⟩), .int .i64 (-1024)] w' (CmpRes w' C1)) (hm2 : ∀ w', QiAt w' p n s ⟨#[66, 105, 110, 97, 114, 121, 83, 73]⟩ → Calls Tryz.prog 112 #[.pointer (some ⟨p, 0, none⟩), .int .i64 1024] w' (CmpRes w' C2)) (g1 : 0 < C1) (g2 : C2 < 0) :
    Calls Tryz.prog 76 #[.pointer (some ⟨p, 0, none⟩), .slice none 0 0] w (CanonRes w t T) := by
  obtain ⟨c0, c1, c2, c4⟩ := qi_cells h
  have hz : (n == 0) = false := beqF hn0
  have HQ := Lib.hid h
  have HCAN := Lib.hid hcan
  have HCON := Lib.hid hcon
  have q2 := fun d w => m_cons d w
  have HM1 := Lib.hid hm1
  have HM2 := Lib.hid hm2
  have f1 : decide (0 < C1) = true := decT g1
  have f2 : decide (C2 < 0) = true := decT g2
  clear h hcan hcon hn0 hm1 hm2 g1 g2
  go_enter Tryz.func76, Tryz.ntmps76
  go_wp2_with fail
  refine (IsZeroI p n s _ w HQ.out).mono ?_
  rintro e w1 ⟨rfl, rfl⟩
  go_wp2_with fail
  refine (HM1.out _ HQ.out).mono ?_
  rintro e w1 ⟨rfl, hk⟩
  have K1 := Lib.hid hk
  have Q1 := Lib.hid (HQ.out.old hk)
  clear hk
  go_wp2_with fail
  refine (HM2.out _ Q1.out).mono ?_
  rintro e w2 ⟨rfl, hk⟩
  have K2 := Lib.hid (K1.out.same hk)
  have Q2 := Lib.hid (Q1.out.old hk)
  clear hk
  go_wp2_with fail
  have KX := K2
  refine (HCAN.out _ KX.out).mono ?_
  rintro e w4 ⟨v1, rfl, hb, hk⟩
  have K4 := Lib.hid (KX.out.same hk)
  have B4 := Lib.hid hb
  clear hb hk
  go_wp2_with fail
  refine (newSuffixer_any w4).mono ?_
  rintro e w5 ⟨dd, rfl, hdd, hsf, hk⟩
  have K5 := Lib.hid (K4.out.same hk)
  have B5 := Lib.hid (B4.out.kept hk (fun _ _ _ _ f => f))
  have HC := Lib.hid (HCON.out dd w5 hsf)
  simp only [fDec, fExp] at HC
  clear hk hsf
  go_wp2_with fail
  refine HC.out.mono ?_
  rintro e w6 ⟨v, ok, rfl, hv, hk⟩
  have HV := Lib.hid hv
  clear hv
  go_wp2_with fail
  go_ret2
  exact ⟨_, v, rfl, B5.out.kept hk (fun _ _ _ _ f => f), HV.out, K5.out.same hk⟩
set_option maxRecDepth 100000 in
set_option maxHeartbeats 2000000 in
theorem CanonI_bin_ex_lo (p : Nat) (n s E C1 C2 v sc X : Int) (t T : ByteArray) (w : World) (h : QiAt w p n s ⟨#[66, 105, 110, 97, 114, 121, 83, 73]⟩) (hn0 : n ≠ 0)
    (hcan : ∀ w', Kept (fun _ => False) w w' → Calls Tryz.prog 317 #[.agg #[.int .i64 v, .int .i32 sc], .slice none 0 0] w' (CanB w' t E)) (hX : wrap32 (E * 10) = X)
    (hcon : ∀ dd w', Suffixer w' dd → Calls Tryz.prog 327 #[.pointer (some ⟨dd, 0, none⟩), .int .i32 2, .int .i32 X, fBin] w' (ConT w' T)) (hm1 : ∀ w', QiAt w' p n s ⟨#[66, 105, 110, 97, 114, 121, 83, 73]⟩ → Calls Tryz.prog 112 #[.pointer (some ⟨p, 0, none⟩), .int .i64 (-1024)] w' (CmpRes w' C1)) (hm2 : ∀ w', QiAt w' p n s ⟨#[66, 105, 110, 97, 114, 121, 83, 73]⟩ → Calls Tryz.prog 112 #[.pointer (some ⟨p, 0, none⟩), .int .i64 1024] w' (CmpRes w' C2)) (hasc : ∀ w', QiAt w' p n s ⟨#[66, 105, 110, 97, 114, 121, 83, 73]⟩ → Calls Tryz.prog 113 #[.pointer (some ⟨p, 0, none⟩), .int .i32 0] w' (AscI w' v sc true)) (g1 : ¬ 0 < C1) :
    Calls Tryz.prog 76 #[.pointer (some ⟨p, 0, none⟩), .slice none 0 0] w (CanonRes w t T) := by
  obtain ⟨c0, c1, c2, c4⟩ := qi_cells h
  have hz : (n == 0) = false := beqF hn0
  have HQ := Lib.hid h
  have HCAN := Lib.hid hcan
  have HCON := Lib.hid hcon
  have q2 := fun d w => m_cons d w
  have HM1 := Lib.hid hm1
  have HM2 := Lib.hid hm2
  have HB := HCAN
  have q1 := fun n s w => m_b1024I n s w
  have HASC := Lib.hid hasc
  have f1 : decide (0 < C1) = false := decF g1
  clear h hcan hcon hn0 hm1 hm2 hasc g1
  go_enter Tryz.func76, Tryz.ntmps76
  go_wp2_with fail
  refine (IsZeroI p n s _ w HQ.out).mono ?_
  rintro e w1 ⟨rfl, rfl⟩
  go_wp2_with fail
  refine (HM1.out _ HQ.out).mono ?_
  rintro e w1 ⟨rfl, hk⟩
  have K1 := Lib.hid hk
  have Q1 := Lib.hid (HQ.out.old hk)
  clear hk
  go_wp2_with fail
  have QX := Q1
  have KC := K1
  refine (HASC.out _ QX.out).mono ?_
  rintro e w3 ⟨rfl, hk⟩
  have KY := Lib.hid (KC.out.same hk)
  clear hk
  go_wp2_with fail
  refine (HB.out _ KY.out).mono ?_
  rintro e w4 ⟨v1, rfl, hb, hk⟩
  have K4 := Lib.hid (KY.out.same hk)
  have B4 := Lib.hid hb
  clear hb hk
  go_wp2_with fail
  refine (newSuffixer_any w4).mono ?_
  rintro e w5 ⟨dd, rfl, hdd, hsf, hk⟩
  have K5 := Lib.hid (K4.out.same hk)
  have B5 := Lib.hid (B4.out.kept hk (fun _ _ _ _ f => f))
  have HC := Lib.hid (HCON.out dd w5 hsf)
  simp only [fBin] at HC
  clear hk hsf
  go_wp2_with fail
  refine HC.out.mono ?_
  rintro e w6 ⟨v2, ok, rfl, hv, hk⟩
  have HV := Lib.hid hv
  clear hv
  go_wp2_with fail
  go_ret2
  exact ⟨_, v2, rfl, B5.out.kept hk (fun _ _ _ _ f => f), HV.out, K5.out.same hk⟩
set_option maxRecDepth 100000 in
set_option maxHeartbeats 2000000 in
theorem CanonI_bin_ex_hi (p : Nat) (n s E C1 C2 v sc X : Int) (t T : ByteArray) (w : World) (h : QiAt w p n s ⟨#[66, 105, 110, 97, 114, 121, 83, 73]⟩) (hn0 : n ≠ 0)
    (hcan : ∀ w', Kept (fun _ => False) w w' → Calls Tryz.prog 317 #[.agg #[.int .i64 v, .int .i32 sc], .slice none 0 0] w' (CanB w' t E)) (hX : wrap32 (E * 10) = X)
    (hcon : ∀ dd w', Suffixer w' dd → Calls Tryz.prog 327 #[.pointer (some ⟨dd, 0, none⟩), .int .i32 2, .int .i32 X, fBin] w' (ConT w' T)) (hm1 : ∀ w', QiAt w' p n s ⟨#[66, 105, 110, 97, 114, 121, 83, 73]⟩ → Calls Tryz.prog 112 #[.pointer (some ⟨p, 0, none⟩), .int .i64 (-1024)] w' (CmpRes w' C1)) (hm2 : ∀ w', QiAt w' p n s ⟨#[66, 105, 110, 97, 114, 121, 83, 73]⟩ → Calls Tryz.prog 112 #[.pointer (some ⟨p, 0, none⟩), .int .i64 1024] w' (CmpRes w' C2)) (hasc : ∀ w', QiAt w' p n s ⟨#[66, 105, 110, 97, 114, 121, 83, 73]⟩ → Calls Tryz.prog 113 #[.pointer (some ⟨p, 0, none⟩), .int .i32 0] w' (AscI w' v sc true)) (g1 : 0 < C1) (g2 : ¬ C2 < 0) :
    Calls Tryz.prog 76 #[.pointer (some ⟨p, 0, none⟩), .slice none 0 0] w (CanonRes w t T) := by
  obtain ⟨c0, c1, c2, c4⟩ := qi_cells h
  have hz : (n == 0) = false := beqF hn0
  have HQ := Lib.hid h
  have HCAN := Lib.hid hcan
  have HCON := Lib.hid hcon
  have q2 := fun d w => m_cons d w
  have HM1 := Lib.hid hm1
  have HM2 := Lib.hid hm2
  have HB := HCAN
  have q1 := fun n s w => m_b1024I n s w
  have HASC := Lib.hid hasc
  have f1 : decide (0 < C1) = true := decT g1
  have f2 : decide (C2 < 0) = false := decF g2
  clear h hcan hcon hn0 hm1 hm2 hasc g1 g2
  go_enter Tryz.func76, Tryz.ntmps76
  go_wp2_with fail
  refine (IsZeroI p n s _ w HQ.out).mono ?_
  rintro e w1 ⟨rfl, rfl⟩
  go_wp2_with fail
  refine (HM1.out _ HQ.out).mono ?_
  rintro e w1 ⟨rfl, hk⟩
  have K1 := Lib.hid hk
  have Q1 := Lib.hid (HQ.out.old hk)
  clear hk
  go_wp2_with fail
  refine (HM2.out _ Q1.out).mono ?_
  rintro e w2 ⟨rfl, hk⟩
  have K2 := Lib.hid (K1.out.same hk)
  have Q2 := Lib.hid (Q1.out.old hk)
  clear hk
  go_wp2_with fail
  have QX := Q2
  have KC := K2
  refine (HASC.out _ QX.out).mono ?_
  rintro e w3 ⟨rfl, hk⟩
  have KY := Lib.hid (KC.out.same hk)
  clear hk
  go_wp2_with fail
  refine (HB.out _ KY.out).mono ?_
  rintro e w4 ⟨v1, rfl, hb, hk⟩
  have K4 := Lib.hid (KY.out.same hk)
  have B4 := Lib.hid hb
  clear hb hk
  go_wp2_with fail
  refine (newSuffixer_any w4).mono ?_
  rintro e w5 ⟨dd, rfl, hdd, hsf, hk⟩
  have K5 := Lib.hid (K4.out.same hk)
  have B5 := Lib.hid (B4.out.kept hk (fun _ _ _ _ f => f))
  have HC := Lib.hid (HCON.out dd w5 hsf)
  simp only [fBin] at HC
  clear hk hsf
  go_wp2_with fail
  refine HC.out.mono ?_
  rintro e w6 ⟨v2, ok, rfl, hv, hk⟩
  have HV := Lib.hid hv
  clear hv
  go_wp2_with fail
  go_ret2
  exact ⟨_, v2, rfl, B5.out.kept hk (fun _ _ _ _ f => f), HV.out, K5.out.same hk⟩
theorem conv_txt {w : World} {v : Value} {t : ByteArray} (h : TxtAt w v t) : (convert 57 9 v).run Tryz.prog w = .ok (.string t) w := by
  rcases h with ⟨rfl, rfl⟩ | h
  · kernel_rfl
  · exact conv_bytes h
def StrK (w : World) (t : ByteArray) (e : Ending) (w' : World) : Prop := e = .returned (.string t) ∧ Kept (fun _ => False) w w'
set_option maxRecDepth 100000 in
set_option maxHeartbeats 1000000 in
theorem canonicalI (p : Nat) (a b : ByteArray) (w : World) (ha : a.size ≤ 1000) (hb : b.size ≤ 1000) (hc : Calls Tryz.prog 76 #[.pointer (some ⟨p, 0, none⟩), .slice none 0 0] w (CanonRes w a b)) :
    Calls Tryz.prog 39 #[.pointer (some ⟨p, 0, none⟩)] w (StrK w (a ++ b)) := by
  have HC := Lib.hid hc
  have hsz : (a ++ b).size ≤ 2000 := by rw [ByteArray.size_append]; omega
  clear hc
  go_enter Tryz.func39, Tryz.ntmps39
  go_wp2_with fail
  refine HC.out.mono ?_
  rintro e w1 ⟨v1, v2, rfl, h1, h2, hk⟩
  have g1 := conv_bytes h1
  have g2 := conv_txt h2
  have HK := Lib.hid hk
  clear h1 h2 hk
  go_wp2_with fail
  go_ret
  exact ⟨rfl, HK.out⟩
end Go.Proofs.YtjebnpkebccffaaGreatDoor
namespace Go.Proofs.YtjebnpkebccffaaGreatDoor
open Go.RowKit
def fmtB (f : Int) : ByteArray := if f = 0 then ⟨#[68, 101, 99, 105, 109, 97, 108, 69, 120, 112, 111, 110, 101, 110, 116]⟩ else if f = 1 then ⟨#[66, 105, 110, 97, 114, 121, 83, 73]⟩ else ⟨#[68, 101, 99, 105, 109, 97, 108, 83, 73]⟩
set_option maxRecDepth 100000 in
theorem format_any (f : Int) (hf : f = 0 ∨ f = 1 ∨ f = 2) (w : World) : Calls Tryz.prog 38 #[.int .i64 f] w fun e w' => e = .returned (.string (fmtB f)) ∧ w = w' := by
  rcases hf with rfl | rfl | rfl
  all_goals
    go_enter Tryz.func38, Tryz.ntmps38
    go_wp2_with fail
    go_ret
    exact ⟨rfl, rfl⟩
def newQ (n s : Int) : Obj := .cells #[.int .i64 n, .int .i32 s, .pointer none, .string ⟨#[]⟩, .string ⟨#[68, 101, 99, 105, 109, 97, 108, 83, 73]⟩] 66
theorem build60 (a b : Int) (w : World) : (Instr.build 60 #[(0, .int .i64 a), (1, .int .i32 b)]).run Tryz.prog w = .ok (.agg #[.int .i64 a, .int .i32 b]) w := run_build w 60 _ _ (by kernel_rfl)
set_option maxRecDepth 100000 in
theorem NewScaled_any (n s : Int) (w : World) : Calls Tryz.prog 37 #[.int .i64 n, .int .i32 s] w fun e w' => e = .returned (.pointer (some ⟨w.heap.size, 0, none⟩)) ∧ w' = w.alloc (newQ n s) := by
  have q1 := fun a b w => build60 a b w
  go_enter Tryz.func37, Tryz.ntmps37
  go_wp2_with fail
  go_ret
  exact ⟨rfl, rfl⟩
set_option maxRecDepth 100000 in
set_option maxHeartbeats 1000000 in
theorem QuantityNew_of (n s f : Int) (t : ByteArray) (w : World) (hf : f = 0 ∨ f = 1 ∨ f = 2) (hs : -1000 ≤ s ∧ s ≤ 1000)
    (hcan : ∀ w' p, QiAt w' p n s (fmtB f) → Kept (fun _ => False) w w' → Calls Tryz.prog 39 #[.pointer (some ⟨p, 0, none⟩)] w' (StrK w' t)) :
    Calls Tryz.prog 15 #[.int .i64 n, .int .i64 s, .int .i64 f] w (StrK w t) := by
  have e1 : IntKind.i32.wrap s = s := by rw [IntKind.wrap_i32]; omega
  have e2 : wrap32 s = s := by unfold wrap32; omega
  have hb := heap_alloc_new w (newQ n s)
  have c4 : (w.alloc (newQ n s)).cell? ⟨w.heap.size, 4, none⟩ = some (.string ⟨#[68, 101, 99, 105, 109, 97, 108, 83, 73]⟩) := by rw [cell_of hb]; rfl
  have fz := frozen_of hb 4
  have hq : QiAt ((w.alloc (newQ n s)).setCell ⟨w.heap.size, 4, none⟩ (.string (fmtB f))) w.heap.size n s (fmtB f) := heap_set_same hb 4 _
  have hk : Kept (fun _ => False) w ((w.alloc (newQ n s)).setCell ⟨w.heap.size, 4, none⟩ (.string (fmtB f))) := ((Kept.refl _ _).alloc _).setCell _ _ (by intro h; simp at h)
  have HC := Lib.hid (hcan _ _ hq hk)
  have HK := Lib.hid hk
  have HF := Lib.hid (format_any f hf)
  generalize fmtB f = FB at *
  have HN := Lib.hid (NewScaled_any n s w)
  generalize w.alloc (newQ n s) = X at *
  generalize hY : X.setCell ⟨w.heap.size, 4, none⟩ (.string FB) = Y at *
  clear hb hq hk hcan hf hs
  go_enter Tryz.func15, Tryz.ntmps15
  go_wp2_with fail
  refine HN.out.mono ?_
  rintro e w1 ⟨rfl, rfl⟩
  go_wp2_with fail
  refine (HF.out _).mono ?_
  rintro e w2 ⟨rfl, rfl⟩
  go_wp2_with fail
  refine HC.out.mono ?_
  rintro e w3 ⟨rfl, hk3⟩
  have K3 := Lib.hid (HK.out.same hk3)
  clear hk3
  go_wp2_with fail
  go_ret
  exact ⟨rfl, K3.out⟩
end Go.Proofs.YtjebnpkebccffaaGreatDoor
