import Derived.Test.YtjebnpkebccffaaGreatDoorJMem
import Derived.Test.YtjebnpkebccffaaGreatDoorJParse
import Derived.Test.YtjebnpkebccffaaGreatDoorJIntp
import Derived.LaidEql
import Derived.Stop.Asserts
import Derived.RowKitTokens
set_option linter.unusedSimpArgs false
set_option linter.unusedVariables false
set_option linter.unusedSectionVars false
namespace Go.Proofs.YtjebnpkebccffaaGreatDoor
open Go.RowKit Go.Extern.Stop Go.Stop Go.Extern
/-! ### errors.Is at two errors of errors.New's make (after the worked text SentryIs) -/
theorem Tryz.isTypeOf (v : Value) (w : World) : (Extern.ReflectliteType.typeOf #[.iface 257 v]).run Tryz.prog w = .ok (.iface 234 (.agg #[.pointer (some ⟨22, 257, none⟩)])) w := by kernel_rfl
theorem Tryz.isComparable (w : World) : ((Extern.ReflectliteType.method fun t => do Go.Extern.Rtype.noPackHeld "Comparable" t; (fun a => Value.bool a.comparable) <$> typeInfo t) #[.agg #[.pointer (some ⟨22, 257, none⟩)]]).run Tryz.prog w = .ok (.bool true) w := by kernel_rfl
theorem Tryz.isMethodComparable (v : Value) (w : World) : (Go.method 525 234 v "Comparable").run Tryz.prog w = .ok (346, v) w := by kernel_rfl
theorem Tryz.isComp : (Tryz.prog.info? 257).map (·.comparable) = some true := by kernel_rfl
theorem Tryz.isSize : (Tryz.prog.info? 259).map (·.size) = some 1 := by kernel_rfl
theorem Tryz.noIsE (v : Value) (xT : TypeId) (w : World) : (Instr.typeAssert (.iface 257 v) xT 236 true).run Tryz.prog w = .ok (.tuple #[.nilIface, .bool false]) w := run_typeAssert_lacksB Tryz.underlying236 (by kernel_rfl) (by kernel_rfl) v xT w
theorem Tryz.noUnwrapE (v : Value) (xT : TypeId) (w : World) : (Instr.typeAssert (.iface 257 v) xT 239 true).run Tryz.prog w = .ok (.tuple #[.nilIface, .bool false]) w := run_typeAssert_lacksB Tryz.underlying239 (by kernel_rfl) (by kernel_rfl) v xT w
theorem Tryz.noUnwrapsE (v : Value) (xT : TypeId) (w : World) : (Instr.typeAssert (.iface 257 v) xT 240 true).run Tryz.prog w = .ok (.tuple #[.nilIface, .bool false]) w := run_typeAssert_lacksB Tryz.underlying240 (by kernel_rfl) (by kernel_rfl) v xT w
set_option maxRecDepth 100000 in
theorem is_same (a : Addr) (w : World) :
    Calls Tryz.prog 72 #[.iface 257 (.pointer (some a)), .iface 257 (.pointer (some a))] w fun e w' => e = .returned (.bool true) ∧ w' = w := by
  obtain ⟨i, hi, hcmp⟩ := Option.map_eq_some_iff.1 Tryz.isComp
  obtain ⟨j, hj, hjs⟩ := Option.map_eq_some_iff.1 Tryz.isSize
  have h8 := @run_callFunc_extern Tryz.prog 110 _ Extern.ReflectliteType.typeOf Tryz.func110 (by kernel_rfl) (by kernel_rfl) (by kernel_rfl) (by kernel_rfl)
  have h32 := @run_callFunc_extern Tryz.prog 346 _ (Extern.ReflectliteType.method fun t => do Go.Extern.Rtype.noPackHeld "Comparable" t; pure (.bool (← typeInfo t).comparable)) Tryz.func346 (by kernel_rfl) (by kernel_rfl) (by kernel_rfl) (by kernel_rfl)
  have tT := Tryz.isTypeOf
  have cT := Tryz.isComparable
  have mR := Tryz.isMethodComparable
  have heq := run_eql_iface_ptr_same (P := Tryz.prog) w a Tryz.underlying68 Tryz.underlying257 hi hcmp hj
  go_enter Tryz.func72, Tryz.ntmps72
  go_wp2
  refine wp_loop_rounds 1 ?_
  rw [rounds_succ]
  go_wp2
  go_ret
  exact ⟨rfl, rfl⟩
set_option maxRecDepth 100000 in
theorem is_other (a b : Addr) (ca cb : Array Value) (ta tb : TypeId) (w : World) (hne : a ≠ b) (ha : w.heap[a.block]? = some (.cells ca ta (0, 0))) (hb : w.heap[b.block]? = some (.cells cb tb (0, 0))) :
    Calls Tryz.prog 72 #[.iface 257 (.pointer (some a)), .iface 257 (.pointer (some b))] w fun e w' => e = .returned (.bool false) ∧ w' = w := by
  obtain ⟨i, hi, hcmp⟩ := Option.map_eq_some_iff.1 Tryz.isComp
  obtain ⟨j, hj, hjs⟩ := Option.map_eq_some_iff.1 Tryz.isSize
  have h8 := @run_callFunc_extern Tryz.prog 110 _ Extern.ReflectliteType.typeOf Tryz.func110 (by kernel_rfl) (by kernel_rfl) (by kernel_rfl) (by kernel_rfl)
  have h32 := @run_callFunc_extern Tryz.prog 346 _ (Extern.ReflectliteType.method fun t => do Go.Extern.Rtype.noPackHeld "Comparable" t; pure (.bool (← typeInfo t).comparable)) Tryz.func346 (by kernel_rfl) (by kernel_rfl) (by kernel_rfl) (by kernel_rfl)
  have tT := Tryz.isTypeOf
  have cT := Tryz.isComparable
  have mR := Tryz.isMethodComparable
  have nE := Tryz.noIsE
  have uE := Tryz.noUnwrapE
  have vE := Tryz.noUnwrapsE
  have heq := run_eql_iface_ptr_other (P := Tryz.prog) w Tryz.underlying68 Tryz.underlying257 hi hcmp hj (by rw [hjs]; decide) hne ha hb
  go_enter Tryz.func72, Tryz.ntmps72
  go_wp2
  refine wp_loop_rounds 1 ?_
  rw [rounds_succ]
  go_wp2
  go_ret
  exact ⟨rfl, rfl⟩
/-- The three errors of ParseQuantity, each with a block of its own. -/
structure Errs (w : World) (a b c : Addr) : Prop where
  g0 : w.cell? ⟨0, 0, none⟩ = some (.iface 257 (.pointer (some a)))
  g1 : w.cell? ⟨1, 0, none⟩ = some (.iface 257 (.pointer (some b)))
  g2 : w.cell? ⟨2, 0, none⟩ = some (.iface 257 (.pointer (some c)))
  ha : ∃ ca ta, w.heap[a.block]? = some (.cells ca ta (0, 0))
  hb : ∃ cb tb, w.heap[b.block]? = some (.cells cb tb (0, 0))
  hc : ∃ cc tc, w.heap[c.block]? = some (.cells cc tc (0, 0))
  nab : a ≠ b
  nac : a ≠ c
  nbc : b ≠ c
theorem cell_lt {w : World} {b i : Nat} {v : Value} (h : w.cell? ⟨b, i, none⟩ = some v) : b < w.heap.size := by
  rcases Nat.lt_or_ge b w.heap.size with h' | h'
  · exact h'
  · have : w.heap[b]? = none := Array.getElem?_eq_none h'
    simp [World.cell?, this] at h
theorem cell_same {w w' : World} {b i : Nat} {v : Value} (hk : Kept (fun _ => False) w w') (h : w.cell? ⟨b, i, none⟩ = some v) : w'.cell? ⟨b, i, none⟩ = some v := by
  have hb := hk.block b (cell_lt h) (fun f => f)
  rw [← h]; simp [World.cell?, hb]
theorem Errs.kept {w w' : World} {a b c : Addr} (h : Errs w a b c) (hk : Kept (fun _ => False) w w') : Errs w' a b c := by
  obtain ⟨ca, ta, h1⟩ := h.ha
  obtain ⟨cb, tb, h2⟩ := h.hb
  obtain ⟨cc, tc, h3⟩ := h.hc
  exact ⟨cell_same hk h.g0, cell_same hk h.g1, cell_same hk h.g2, ⟨ca, ta, hk.at h1 (fun f => f)⟩, ⟨cb, tb, hk.at h2 (fun f => f)⟩, ⟨cc, tc, hk.at h3 (fun f => f)⟩, h.nab, h.nac, h.nbc⟩
set_option maxRecDepth 100000 in
theorem fault_format (a b c : Addr) (w : World) (h : Errs w a b c) : Calls Tryz.prog 28 #[.iface 257 (.pointer (some a))] w fun e w' => e = .returned (.int .i64 1) ∧ w = w' := by
  have c0 := h.g0
  have q1 : ∀ (w : World), (binOp .eql 68 (.iface 257 (.pointer (some a))) .nilIface).run Tryz.prog w = .ok (.bool false) w := fun w => by kernel_rfl
  go_enter Tryz.func28, Tryz.ntmps28
  go_wp2_with fail
  refine (is_same a w).mono ?_
  rintro e w1 ⟨rfl, rfl⟩
  go_wp2_with fail
  go_ret
  exact ⟨rfl, rfl⟩
set_option maxRecDepth 100000 in
theorem fault_suffix (a b c : Addr) (w : World) (h : Errs w a b c) : Calls Tryz.prog 28 #[.iface 257 (.pointer (some b))] w fun e w' => e = .returned (.int .i64 3) ∧ w = w' := by
  have c0 := h.g0
  have c1 := h.g1
  have c2 := h.g2
  obtain ⟨ca, ta, h1⟩ := h.ha
  obtain ⟨cb, tb, h2⟩ := h.hb
  obtain ⟨cc, tc, h3⟩ := h.hc
  have n1 := Lib.hid (Ne.symm h.nab)
  have n2 := Lib.hid h.nbc
  have H1 := Lib.hid h1
  have H2 := Lib.hid h2
  have H3 := Lib.hid h3
  have q1 : ∀ (w : World), (binOp .eql 68 (.iface 257 (.pointer (some b))) .nilIface).run Tryz.prog w = .ok (.bool false) w := fun w => by kernel_rfl
  clear h h1 h2 h3
  go_enter Tryz.func28, Tryz.ntmps28
  go_wp2_with fail
  refine (is_other b a cb ca tb ta w n1.out H2.out H1.out).mono ?_
  rintro e w1 ⟨rfl, rfl⟩
  go_wp2_with fail
  refine (is_other b c cb cc tb tc _ n2.out H2.out H3.out).mono ?_
  rintro e w1 ⟨rfl, rfl⟩
  go_wp2_with fail
  refine (is_same b _).mono ?_
  rintro e w1 ⟨rfl, rfl⟩
  go_wp2_with fail
  go_ret
  exact ⟨rfl, rfl⟩
end Go.Proofs.YtjebnpkebccffaaGreatDoor
namespace Go.Proofs.YtjebnpkebccffaaGreatDoor
open Go.RowKit
/-! ### ParseQuantity where it gives an error -/
def zQ : Array Value := #[.int .i64 0, .int .i32 0, .pointer none, .string ⟨#[]⟩, .string ⟨#[]⟩]
theorem build66 (w : World) : (Instr.build 66 #[]).run Tryz.prog w = .ok (.agg zQ) w := run_build w 66 _ _ (by kernel_rfl)
theorem e_ne (a : Addr) (w : World) : (binOp .neq 68 (.iface 257 (.pointer (some a))) .nilIface).run Tryz.prog w = .ok (.bool true) w := by kernel_rfl
theorem e_nn0 (w : World) : (binOp .neq 68 .nilIface .nilIface).run Tryz.prog w = .ok (.bool false) w := by kernel_rfl
def PErr (w : World) (ev : Value) (e : Ending) (w' : World) : Prop := e = .returned (.tuple #[.agg zQ, ev]) ∧ Kept (fun _ => False) w w'
theorem toList_ne {s t : ByteArray} (h : s ≠ t) : (s.toList == t.toList) = false := by
  cases hb : s.toList == t.toList with
  | false => rfl
  | true =>
    rw [beq_iff_eq, ByteArray.toList_eq, ByteArray.toList_eq] at hb
    exact absurd (bytes_ext hb) h
theorem store5 {w : World} {q : Nat} {a0 a1 a2 a3 a4 : Value} (h : w.heap[q]? = some (.cells #[a0, a1, a2, a3, a4] 66 (0, 0))) (v0 v1 v2 v3 v4 : Value) :
    (((((w.setCell ⟨q, 0, none⟩ v0).setCell ⟨q, 1, none⟩ v1).setCell ⟨q, 2, none⟩ v2).setCell ⟨q, 3, none⟩ v3).setCell ⟨q, 4, none⟩ v4).heap[q]? = some (.cells #[v0, v1, v2, v3, v4] 66 (0, 0)) ∧ Kept (fun i => i = q) w (((((w.setCell ⟨q, 0, none⟩ v0).setCell ⟨q, 1, none⟩ v1).setCell ⟨q, 2, none⟩ v2).setCell ⟨q, 3, none⟩ v3).setCell ⟨q, 4, none⟩ v4) := by
  refine ⟨?_, ((((((Kept.refl (fun i => i = q) w).setCell _ _ (fun _ => rfl)).setCell _ _ (fun _ => rfl)).setCell _ _ (fun _ => rfl)).setCell _ _ (fun _ => rfl)).setCell _ _ (fun _ => rfl))⟩
  have h0 := heap_set_same h 0 v0
  have h1 := heap_set_same h0 1 v1
  have h2 := heap_set_same h1 2 v2
  have h3 := heap_set_same h2 3 v3
  have h4 := heap_set_same h3 4 v4
  rw [h4]
  simp
set_option maxRecDepth 100000 in
set_option maxHeartbeats 1000000 in
theorem ParseQ_format (s : ByteArray) (hs : s.size ≤ 2147483647) (w : World) (a : Addr) (hev : w.cell? ⟨0, 0, none⟩ = some (.iface 257 (.pointer (some a)))) (h : (pq s).ok = false) (hne : s.size ≠ 0) :
    Calls Tryz.prog 27 #[.string s] w (PErr w (.iface 257 (.pointer (some a)))) := by
  have k0 : Kept (fun _ => False) w (w.alloc (.cells zQ 66)) := (Kept.refl _ _).alloc _
  have h0 := heap_alloc_new w (.cells zQ 66)
  have HB := Lib.hid h0
  have ev0 := cell_same k0 hev
  have hp := parse_any s hs (w.alloc (.cells zQ 66)) _ ev0
  have hr : ∃ p v n d f, pq s = ⟨p, v, n, d, f, false⟩ := by
    cases hq : pq s with
    | mk p v n d f k => rw [hq] at h; obtain rfl : k = false := h; exact ⟨p, v, n, d, f, rfl⟩
  obtain ⟨p, v, n, d, f, hr⟩ := hr
  rw [hr] at hp
  have hs0 : (s.toList == [48]) = false := by
    have := toList_ne (s := s) (t := ⟨#[48]⟩) (fun e => by subst e; exact absurd h (by decide))
    rw [ByteArray.toList_eq ⟨#[48]⟩] at this
    exact this
  have hsz : ((s.size : Int) == 0) = false := beqF (by omega)
  have HP := Lib.hid hp
  have K0 := Lib.hid k0
  have HEV := Lib.hid ev0
  have q1 := fun w => e_ne a w
  have q2 := fun w => build66 w
  clear hp k0 ev0 hev hr h h0
  go_enter Tryz.func27, Tryz.ntmps27
  go_wp2_with fail
  refine HP.out.mono ?_
  rintro e w1 ⟨rfl, hk⟩
  have b1 := hk.at HB.out (fun f => f)
  have c0 : w1.cell? ⟨w.heap.size, 0, none⟩ = some (.int .i64 0) := by rw [cell_of b1]; rfl
  have c1 : w1.cell? ⟨w.heap.size, 1, none⟩ = some (.int .i32 0) := by rw [cell_of b1]; rfl
  have c2 : w1.cell? ⟨w.heap.size, 2, none⟩ = some (.pointer none) := by rw [cell_of b1]; rfl
  have c3 : w1.cell? ⟨w.heap.size, 3, none⟩ = some (.string ⟨#[]⟩) := by rw [cell_of b1]; rfl
  have c4 : w1.cell? ⟨w.heap.size, 4, none⟩ = some (.string ⟨#[]⟩) := by rw [cell_of b1]; rfl
  have f0 := frozen_of b1 0
  have f1 := frozen_of b1 1
  have f2 := frozen_of b1 2
  have f3 := frozen_of b1 3
  have f4 := frozen_of b1 4
  simp only [pqV]
  have g := store5 (a0 := .int .i64 0) (a1 := .int .i32 0) (a2 := .pointer none) (a3 := .string ⟨#[]⟩) (a4 := .string ⟨#[]⟩) b1 (.int .i64 0) (.int .i32 0) (.pointer none) (.string ⟨#[]⟩) (.string ⟨#[]⟩)
  generalize hW : (((((w1.setCell ⟨w.heap.size, 0, none⟩ (.int .i64 0)).setCell ⟨w.heap.size, 1, none⟩ (.int .i32 0)).setCell ⟨w.heap.size, 2, none⟩ (.pointer none)).setCell ⟨w.heap.size, 3, none⟩ (.string ⟨#[]⟩)).setCell ⟨w.heap.size, 4, none⟩ (.string ⟨#[]⟩)) = W at g
  have G1 := Lib.hid g.1
  have G2 := Lib.hid g.2
  clear g
  go_wp2_with fail
  have hb := G1.out
  have d0 : W.cell? ⟨w.heap.size, 0, none⟩ = some (.int .i64 0) := by rw [cell_of hb]; rfl
  have d1 : W.cell? ⟨w.heap.size, 1, none⟩ = some (.int .i32 0) := by rw [cell_of hb]; rfl
  have d2 : W.cell? ⟨w.heap.size, 2, none⟩ = some (.pointer none) := by rw [cell_of hb]; rfl
  have d3 : W.cell? ⟨w.heap.size, 3, none⟩ = some (.string ⟨#[]⟩) := by rw [cell_of hb]; rfl
  have d4 : W.cell? ⟨w.heap.size, 4, none⟩ = some (.string ⟨#[]⟩) := by rw [cell_of hb]; rfl
  have hkW : Kept (fun _ => False) w W := (K0.out.same hk).trans G2.out (fun _ _ f => f) (fun i hi h => by omega)
  refine bodyPost_ret (v := .tuple #[.agg zQ, .iface 257 (.pointer (some a))]) ?_ rfl ⟨rfl, hkW⟩
  simp [results, Tryz.f27, loadVar, go_sem, d0, d1, d2, d3, d4, zQ]
def hb5 (w : World) (q : Nat) (a0 a1 a2 a3 a4 : Value) : Prop := w.heap[q]? = some (.cells #[a0, a1, a2, a3, a4] 66 (0, 0))
theorem cells5 {w : World} {q : Nat} {a0 a1 a2 a3 a4 : Value} (h : w.heap[q]? = some (.cells #[a0, a1, a2, a3, a4] 66 (0, 0))) :
    w.cell? ⟨q, 0, none⟩ = some a0 ∧ w.cell? ⟨q, 1, none⟩ = some a1 ∧ w.cell? ⟨q, 2, none⟩ = some a2 ∧ w.cell? ⟨q, 3, none⟩ = some a3 ∧ w.cell? ⟨q, 4, none⟩ = some a4 :=
  ⟨by rw [cell_of h]; rfl, by rw [cell_of h]; rfl, by rw [cell_of h]; rfl, by rw [cell_of h]; rfl, by rw [cell_of h]; rfl⟩
set_option maxRecDepth 100000 in
set_option maxHeartbeats 1000000 in
/-- A text whose suffix is none. -/
theorem ParseQ_suffix (s : ByteArray) (hs : s.size ≤ 2147483647) (w : World) (a : Addr) (ev : Value) (hev0 : w.cell? ⟨0, 0, none⟩ = some ev) (hev : w.cell? ⟨1, 0, none⟩ = some (.iface 257 (.pointer (some a)))) (p : Bool) (v n d f : ByteArray) (h : pq s = ⟨p, v, n, d, f, true⟩) (hne : s.size ≠ 0) (hs0 : (s.toList == [48]) = false)
    (hI : ∀ w1 dd, Suffixer w1 dd → Kept (fun _ => False) w w1 → ∃ b x fm, Calls Tryz.prog 331 #[.agg #[.pointer (some ⟨dd, 0, none⟩)], .string f] w1 (IntpRes w1 b x fm false)) :
    Calls Tryz.prog 27 #[.string s] w (PErr w (.iface 257 (.pointer (some a)))) := by
  have k0 : Kept (fun _ => False) w (w.alloc (.cells zQ 66)) := (Kept.refl _ _).alloc _
  have h0 := heap_alloc_new w (.cells zQ 66)
  have HB := Lib.hid h0
  have hp := parse_any s hs (w.alloc (.cells zQ 66)) _ (cell_same k0 hev0)
  rw [h] at hp
  have hsz : ((s.size : Int) == 0) = false := beqF (by omega)
  have HP := Lib.hid hp
  have K0 := Lib.hid k0
  have HEV := Lib.hid hev
  have HI := Lib.hid hI
  have q1 := fun w => e_nn0 w
  have q2 := fun w => build66 w
  have q3 := fun d w => m_intp d w
  clear hp k0 hev hev0 h h0 hI
  go_enter Tryz.func27, Tryz.ntmps27
  go_wp2_with fail
  refine HP.out.mono ?_
  rintro e w1 ⟨rfl, hk⟩
  have K1 := Lib.hid (K0.out.same hk)
  have B1 := Lib.hid (hk.at HB.out (fun f => f))
  clear hk HP HB
  simp only [pqV]
  go_wp2_with fail
  refine (newSuffixer_any w1).mono ?_
  rintro e w2 ⟨dd, rfl, hdd, hsf, hk⟩
  have K2 := Lib.hid (K1.out.same hk)
  have B2 := Lib.hid (hk.at B1.out (fun f => f))
  obtain ⟨b, x, fm, hcl⟩ := HI.out w2 dd hsf K2.out
  have HC := Lib.hid hcl
  clear hk hsf hcl B1
  go_wp2_with fail
  refine HC.out.mono ?_
  rintro e w3 ⟨rfl, hk⟩
  have K3 := Lib.hid (K2.out.same hk)
  have b3 := hk.at B2.out (fun f => f)
  have hk3 := K3.out
  have b3d : w3.drew.heap[w.heap.size]? = some (.cells #[.int .i64 0, .int .i32 0, .pointer none, .string ⟨#[]⟩, .string ⟨#[]⟩] 66 (0, 0)) := b3
  obtain ⟨c0, c1, c2, c3, c4⟩ := cells5 b3
  obtain ⟨c0d, c1d, c2d, c3d, c4d⟩ := cells5 b3d
  have f0 := frozen_of b3 0
  have f1 := frozen_of b3 1
  have f2 := frozen_of b3 2
  have f3 := frozen_of b3 3
  have f4 := frozen_of b3 4
  have f0d := frozen_of b3d 0
  have f1d := frozen_of b3d 1
  have f2d := frozen_of b3d 2
  have f3d := frozen_of b3d 3
  have f4d := frozen_of b3d 4
  have he1 : w3.cell? ⟨1, 0, none⟩ = some (.iface 257 (.pointer (some a))) := cell_same hk3 HEV.out
  have he1d : w3.drew.cell? ⟨1, 0, none⟩ = some (.iface 257 (.pointer (some a))) := he1
  have hne1 : w.heap.size ≠ 1 := by have := cell_lt HEV.out; omega
  have g := store5 b3 (.int .i64 0) (.int .i32 0) (.pointer none) (.string ⟨#[]⟩) (.string ⟨#[]⟩)
  generalize hW : (((((w3.setCell ⟨w.heap.size, 0, none⟩ (.int .i64 0)).setCell ⟨w.heap.size, 1, none⟩ (.int .i32 0)).setCell ⟨w.heap.size, 2, none⟩ (.pointer none)).setCell ⟨w.heap.size, 3, none⟩ (.string ⟨#[]⟩)).setCell ⟨w.heap.size, 4, none⟩ (.string ⟨#[]⟩)) = W at g
  have he2 : W.cell? ⟨1, 0, none⟩ = some (.iface 257 (.pointer (some a))) := by
    have hb := g.2.block 1 (cell_lt he1) (fun h => hne1 h.symm)
    rw [← he1]; simp [World.cell?, hb]
  have he2d : W.drew.cell? ⟨1, 0, none⟩ = some (.iface 257 (.pointer (some a))) := he2
  have G1 := Lib.hid g.1
  have G2 := Lib.hid g.2
  clear g hk b3 b3d B2
  go_wp2_with fail
  go_region
  all_goals
    go_wp2_with fail
    have hbW : W.drew.heap[w.heap.size]? = some (.cells #[.int .i64 0, .int .i32 0, .pointer none, .string ⟨#[]⟩, .string ⟨#[]⟩] 66 (0, 0)) := G1.out
    obtain ⟨d0, d1, d2, d3, d4⟩ := cells5 hbW
    obtain ⟨e0, e1, e2, e3, e4⟩ := cells5 G1.out
    refine bodyPost_ret (v := .tuple #[.agg zQ, .iface 257 (.pointer (some a))]) ?_ rfl ⟨rfl, (K3.out.trans G2.out (fun _ _ f => f) (fun i hi h => by omega)).drew⟩
    simp [results, Tryz.f27, loadVar, go_sem, d0, d1, d2, d3, d4, e0, e1, e2, e3, e4, zQ]
end Go.Proofs.YtjebnpkebccffaaGreatDoor
