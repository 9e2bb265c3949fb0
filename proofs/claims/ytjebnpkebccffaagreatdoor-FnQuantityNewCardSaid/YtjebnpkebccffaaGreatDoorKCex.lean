import Derived.Test.YtjebnpkebccffaaGreatDoorKAmt
import Derived.Test.YtjebnpkebccffaaGreatDoorKIntp
import Derived.Test.YtjebnpkebccffaaGreatDoorKDecs
import Derived.BigQuiet
set_option linter.unusedSimpArgs false
set_option linter.unusedVariables false
set_option linter.unusedSectionVars false
namespace Go.Proofs.YtjebnpkebccffaaGreatDoor
open Go.RowKit
def putL (cur : Array Value) (k : Nat) (news : List Value) : Array Value := (cur.toList.take k ++ news ++ cur.toList.drop (k + news.length)).toArray
theorem app_str_at (w : World) (g off n cap : Nat) (cur : Array Value) (hg : w.heap[g]? = some (.cells cur 5 (0, 0))) (t : ByteArray) (hr : n + t.size ≤ cap) (hfit : off + n + t.size ≤ cur.size) (ty : TypeId) :
    (Builtin.append_ #[57, 9] ty #[.slice (some ⟨g, off, none⟩) n cap, .string t]).run Tryz.prog w = .ok (.slice (some ⟨g, off, none⟩) (n + t.size) cap) (w.setRow g (putL cur (off + n) (Lib.strCells t))) := by
  obtain ⟨i0, hi, hz0, hz1, hz2⟩ := info_parts Tryz.info5
  have hf := Lib.run_firstCells_string (P := Tryz.prog) w 1 t
  have hst := run_storeCells_at Tryz.prog g (off + n) 5 (Lib.strCells t) 0 cur w hg (by simpa [Lib.strCells_length] using hfit) (Lib.strCells_oneCell t)
  simp only [Nat.add_zero] at hst
  simp [Builtin.append_, run_underlying Tryz.underlying57, run_underlying Tryz.underlying9, sizeOf, typeInfo, hi, hz1, Builtin.lenOf, hr, hf, Addr.add_lit, hst, putL]
theorem app_one_at (w : World) (g off n cap : Nat) (cur : Array Value) (hg : w.heap[g]? = some (.cells cur 5 (0, 0))) (b c : Nat) (x : Value) (hx : w.cell? ⟨b, 0, none⟩ = some x) (h1 : x.oneCell' = true) (hr : n + 1 ≤ cap) (hfit : off + n + 1 ≤ cur.size) (ty : TypeId) :
    (Builtin.append_ #[57, 57] ty #[.slice (some ⟨g, off, none⟩) n cap, .slice (some ⟨b, 0, none⟩) 1 c]).run Tryz.prog w = .ok (.slice (some ⟨g, off, none⟩) (n + 1) cap) (w.setRow g (putL cur (off + n) [x])) := by
  obtain ⟨i0, hi, hz0, hz1, hz2⟩ := info_parts Tryz.info5
  have hf := run_firstCells_some (P := Tryz.prog) w 1 1 ⟨b, 0, none⟩ 1 c [x] rfl (by intro j u hj; match j, hj with | 0, hj => cases hj; exact hx | (k+1), hj => simp at hj)
  have hst := run_storeCells_at Tryz.prog g (off + n) 5 [x] 0 cur w hg (by simpa using hfit) (by simpa using h1)
  simp only [Nat.add_zero] at hst
  simp [Builtin.append_, run_underlying Tryz.underlying57, sizeOf, typeInfo, hi, hz1, Builtin.lenOf, hr, hf, Addr.add_lit, hst, putL]
theorem wpList_app {w w' : World} {ops : Array Oper} {rest : List Oper} {o : Oper} {a : Act} {Q : Exit → Act → World → Prop} (hg : o.guard = none) (s x : Operand) (tys : Array TypeId) (hop : o.op = Op.call { callee := Callee.builtin Builtin.append, args := #[s, x], argTypes := tys })
    (u t : Value) (v : Value) (hs : a.eval s = u) (hx : a.eval x = t) (hrun : ∀ ty, (Builtin.append_ tys ty #[u, t]).run Tryz.prog w = .ok v w')
    (hK : wpList Tryz.prog ops Q rest (a.put o.dst v) w') : wpList Tryz.prog ops Q (o :: rest) a w := by
  refine wpList_plain hg fun K hK' => ?_
  unfold Oper.wp
  simp [execOp, hop, resolve, invoke, builtin, hs, hx, hrun, Result.andThen]
  exact hK' _ _ hK
def ApR (w : World) (g off n cap : Nat) (cs : Array Value) (e : Ending) (w' : World) : Prop := e = .returned (.slice (some ⟨g, off, none⟩) n cap) ∧ w'.heap[g]? = some (.cells cs 5 (0, 0)) ∧ Kept (fun b => b = g) w w'
theorem kept_setRow (w : World) (g : Nat) (cs cs' : Array Value) (h : w.heap[g]? = some (.cells cs 5 (0, 0))) : Kept (fun b => b = g) w (w.setRow g cs') ∧ (w.setRow g cs').heap[g]? = some (.cells cs' 5 (0, 0)) := by
  refine ⟨⟨rfl, rfl, rfl, by simp, fun k _ hk => setRow_other w g k cs' hk⟩, setRow_heap w g cs cs' 5 (0, 0) h⟩
def SmallR (w : World) (t : ByteArray) (e : Ending) (w' : World) : Prop := e = .returned (.string t) ∧ w' = w
set_option maxRecDepth 100000 in
theorem small_3 (w : World) : Calls Tryz.prog 253 #[.int .i64 3] w (SmallR w ⟨#[51]⟩) := by
  go_enter Tryz.func253, Tryz.ntmps253
  go_wp2_with fail
  go_ret
  exact ⟨rfl, rfl⟩
set_option maxRecDepth 100000 in
theorem small_6 (w : World) : Calls Tryz.prog 253 #[.int .i64 6] w (SmallR w ⟨#[54]⟩) := by
  go_enter Tryz.func253, Tryz.ntmps253
  go_wp2_with fail
  go_ret
  exact ⟨rfl, rfl⟩
set_option maxRecDepth 100000 in
theorem small_9 (w : World) : Calls Tryz.prog 253 #[.int .i64 9] w (SmallR w ⟨#[57]⟩) := by
  go_enter Tryz.func253, Tryz.ntmps253
  go_wp2_with fail
  go_ret
  exact ⟨rfl, rfl⟩
set_option maxRecDepth 100000 in
theorem small_12 (w : World) : Calls Tryz.prog 253 #[.int .i64 12] w (SmallR w ⟨#[49,50]⟩) := by
  go_enter Tryz.func253, Tryz.ntmps253
  go_wp2_with fail
  go_ret
  exact ⟨rfl, rfl⟩
set_option maxRecDepth 100000 in
theorem small_15 (w : World) : Calls Tryz.prog 253 #[.int .i64 15] w (SmallR w ⟨#[49,53]⟩) := by
  go_enter Tryz.func253, Tryz.ntmps253
  go_wp2_with fail
  go_ret
  exact ⟨rfl, rfl⟩
set_option maxRecDepth 100000 in
theorem small_18 (w : World) : Calls Tryz.prog 253 #[.int .i64 18] w (SmallR w ⟨#[49,56]⟩) := by
  go_enter Tryz.func253, Tryz.ntmps253
  go_wp2_with fail
  go_ret
  exact ⟨rfl, rfl⟩
set_option maxHeartbeats 1000000 in
theorem apUint (i : Int) (t : ByteArray) (hi : 0 ≤ i ∧ i < 100) (hs : ∀ w, Calls Tryz.prog 253 #[.int .i64 i] w (SmallR w t)) (w : World) (g off n cap : Nat) (cur : Array Value) (hg : w.heap[g]? = some (.cells cur 5 (0, 0))) (hr : n + t.size ≤ cap) (hfit : off + n + t.size ≤ cur.size) :
    Calls Tryz.prog 238 #[.slice (some ⟨g, off, none⟩) n cap, .int .u64 i, .int .i64 10] w (ApR w g off (n + t.size) cap (putL cur (off + n) (Lib.strCells t))) := by
  have HS := Lib.hid hs
  have HA := Lib.hid (app_str_at w g off n cap cur hg t hr hfit)
  have HK := Lib.hid (kept_setRow w g cur (putL cur (off + n) (Lib.strCells t)) hg)
  have e1 : IntKind.i64.wrap i = i := by rw [IntKind.wrap_i64]; omega
  have e2 : wrap64 i = i := by unfold wrap64; omega
  have e3 : (i < 100) = True := by simp; omega
  obtain ⟨hi1, hi2⟩ := hi
  generalize n + t.size = N at *
  generalize putL cur (off + n) (Lib.strCells t) = C at *
  clear hs hg hr hfit
  go_enter Tryz.func238, Tryz.ntmps238
  go_wp2_with fail
  refine (HS.out _).mono ?_
  rintro e w1 ⟨rfl, rfl⟩
  go_wp2_with (at_builtin; refine wpList_app rfl _ _ #[57, 9] rfl _ _ _ rfl rfl HA.out ?_)
  go_wp2_with fail
  go_ret
  exact ⟨rfl, HK.out.2, HK.out.1⟩
theorem apInt (i : Int) (t : ByteArray) (hi : 0 ≤ i ∧ i < 100) (hs : ∀ w, Calls Tryz.prog 253 #[.int .i64 i] w (SmallR w t)) (w : World) (g off n cap : Nat) (cur : Array Value) (hg : w.heap[g]? = some (.cells cur 5 (0, 0))) (hr : n + t.size ≤ cap) (hfit : off + n + t.size ≤ cur.size) :
    Calls Tryz.prog 192 #[.slice (some ⟨g, off, none⟩) n cap, .int .i64 i, .int .i64 10] w (ApR w g off (n + t.size) cap (putL cur (off + n) (Lib.strCells t))) := by
  have HU := Lib.hid (apUint i t hi hs w g off n cap cur hg hr hfit)
  have e1 : IntKind.u64.wrap i = i := by rw [IntKind.wrap_u64]; omega
  have e2 : i % 18446744073709551616 = i := by omega
  have e3 : ¬ i < 0 := by omega
  generalize n + t.size = N at *
  generalize putL cur (off + n) (Lib.strCells t) = C at *
  clear hs hg hr hfit hi
  have H4 : Calls Tryz.prog 214 #[.slice (some ⟨g, off, none⟩) n cap, .int .i64 i, .int .i64 10] w (ApR w g off N cap C) := by
    go_enter Tryz.func214, Tryz.ntmps214
    go_wp2_with fail
    refine HU.out.mono ?_
    rintro e w1 ⟨rfl, hc, hk⟩
    go_wp2_with fail
    go_ret
    exact ⟨rfl, hc, hk⟩
  have H4 := Lib.hid H4
  go_enter Tryz.func192, Tryz.ntmps192
  go_wp2_with fail
  refine H4.out.mono ?_
  rintro e w1 ⟨rfl, hc, hk⟩
  go_wp2_with fail
  go_ret
  exact ⟨rfl, hc, hk⟩
def one45 : Obj := .cells #[.int .u8 45] 5
theorem apInt_m3 (w : World) (g off cap : Nat) (cur : Array Value) (hg : w.heap[g]? = some (.cells cur 5 (0, 0))) (hr : 2 ≤ cap) (hfit : off + 2 ≤ cur.size) :
    Calls Tryz.prog 192 #[.slice (some ⟨g, off, none⟩) 0 cap, .int .i64 (-3), .int .i64 10] w (ApR w g off 2 cap (putL (putL cur off [.int .u8 45]) (off + 1) (Lib.strCells ⟨#[51]⟩))) := by
  have hgl : g < w.heap.size := (Array.getElem?_eq_some_iff.1 hg).1
  have hg1 : (w.alloc one45).heap[g]? = some (.cells cur 5 (0, 0)) := by rw [Below.heap_alloc _ _ _ hgl]; exact hg
  have hb := heap_alloc_new w one45
  have c0 : (w.alloc one45).cell? ⟨w.heap.size, 0, none⟩ = some (.int .u8 45) := by rw [cell_of hb]; rfl
  have HA := Lib.hid (fun c => app_one_at (w.alloc one45) g off 0 cap cur hg1 w.heap.size c (.int .u8 45) c0 rfl (by omega) (by omega))
  obtain ⟨hk2, hg2⟩ := kept_setRow (w.alloc one45) g cur (putL cur off [.int .u8 45]) hg1
  have hsz : (putL cur off [.int .u8 45]).size = cur.size := by
    unfold putL
    simp
    omega
  have HU := Lib.hid (apUint 3 ⟨#[51]⟩ (by omega) small_3 ((w.alloc one45).setRow g (putL cur off [.int .u8 45])) g off 1 cap _ hg2 (by show 1 + 1 ≤ cap; omega) (by rw [hsz]; show off + 1 + 1 ≤ _; omega))
  have HK := Lib.hid (((Kept.refl (fun b => b = g) w).alloc one45).same hk2)
  clear hg hg1 hb c0 hk2 hg2 hsz hfit
  unfold one45 at *
  rw [Nat.add_zero] at HA
  generalize putL (putL cur off [.int .u8 45]) (off + 1) (Lib.strCells ⟨#[51]⟩) = C at *
  generalize hX : (w.alloc (.cells #[.int .u8 45] 5)).setRow g (putL cur off [.int .u8 45]) = X at *
  have H4 : Calls Tryz.prog 214 #[.slice (some ⟨g, off, none⟩) 0 cap, .int .i64 (-3), .int .i64 10] w (ApR w g off 2 cap C) := by
    go_enter Tryz.func214, Tryz.ntmps214
    go_wp2_with (at_builtin; refine wpList_app rfl _ _ #[57, 57] rfl _ _ _ rfl rfl (HA.out _) ?_)
    refine HU.out.mono ?_
    rintro e w1 ⟨rfl, hc, hk⟩
    go_wp2_with fail
    go_ret
    exact ⟨rfl, hc, HK.out.same hk⟩
  have H4 := Lib.hid H4
  go_enter Tryz.func192, Tryz.ntmps192
  go_wp2_with fail
  refine H4.out.mono ?_
  rintro e w1 ⟨rfl, hc, hk⟩
  go_wp2_with fail
  go_ret
  exact ⟨rfl, hc, hk⟩
theorem Tryz_u293 : Tryz.prog.underlying 293 = some (.pointer 5) := by kernel_rfl
theorem ptr_byte_same (a : Addr) (w : World) : (binOp .eql 293 (.pointer (some a)) (.pointer (some a))).run Tryz.prog w = .ok (.bool true) w := by
  obtain ⟨i0, hi, hz0, hz1, hz2⟩ := info_parts Tryz.info5
  exact run_eql_ptr_same w a Tryz_u293 hi
def cur8 : Array Value := #[.int .u8 101, .int .u8 0, .int .u8 0, .int .u8 0, .int .u8 0, .int .u8 0, .int .u8 0, .int .u8 0]
def eight : Obj := .cells #[.int .u8 0, .int .u8 0, .int .u8 0, .int .u8 0, .int .u8 0, .int .u8 0, .int .u8 0, .int .u8 0] 5
set_option maxHeartbeats 2000000 in
set_option maxRecDepth 100000 in
theorem construct_one (d : Nat) (i : Int) (N : Nat) (C : Array Value) (T : ByteArray) (hi : -100 ≤ i ∧ i < 100 ∧ i ≠ 0) (hN : 0 < N ∧ N ≤ 7) (hT : T.size = N + 1) (hC : ∀ j (h : j < T.size), C[j]? = some (.int .u8 (T[j].toNat : Int)))
    (hA : ∀ w g, w.heap[g]? = some (.cells cur8 5 (0, 0)) → Calls Tryz.prog 192 #[.slice (some ⟨g, 1, none⟩) 0 7, .int .i64 i, .int .i64 10] w (ApR w g 1 N 7 C)) (w : World) :
    Calls Tryz.prog 327 #[.pointer (some ⟨d, 0, none⟩), .int .i32 10, .int .i32 i, fExp] w (ConsRes w T) := by
  have e1 : IntKind.i64.wrap i = i := by rw [IntKind.wrap_i64]; omega
  have e2 : wrap64 i = i := by unfold wrap64; omega
  have e3 : (i == 0) = false := beqF hi.2.2
  have e4 : wrap64 (1 + (N : Int)) = 1 + (N : Int) := by unfold wrap64; omega
  have e5 : (1 + (N : Int)).toNat = N + 1 := by omega
  have e6 : 0 ≤ 1 + (N : Int) ∧ 1 + (N : Int) ≤ 8 := by omega
  have mk : ∀ w : World, (Instr.makeSlice 57 (.int .i64 8) (.int .i64 8)).run Tryz.prog w = .ok (.slice (some ⟨w.heap.size, 0, none⟩) 8 8) (w.alloc eight) := fun w => by
    have h8 := byte_make 8 (by omega) w
    have hz : Obj.cells (zb 8) 5 = eight := by kernel_rfl
    rw [hz] at h8
    exact h8
  have hb := heap_alloc_new w eight
  have c0 : (w.alloc eight).cell? ⟨w.heap.size, 0, none⟩ = some (.int .u8 0) := by rw [cell_of hb]; rfl
  have hs : ((w.alloc eight).setCell ⟨w.heap.size, 0, none⟩ (.int .u8 101)).heap[w.heap.size]? = some (.cells cur8 5 (0, 0)) := heap_set_same hb 0 _
  have HA := Lib.hid (hA _ _ hs)
  have HC := Lib.hid hC
  have HT := Lib.hid hT
  have HN := Lib.hid hN
  have k0 : Kept (fun _ => False) w (w.alloc eight) := (Kept.refl _ _).alloc _
  have K0 := Lib.hid (k0.setCell ⟨w.heap.size, 0, none⟩ (.int .u8 101) (by intro h; exact absurd h (Nat.lt_irrefl _)))
  have hfz : (w.alloc eight).frozen? ⟨w.heap.size, 0, none⟩ = false := frozen_of hb 0
  have hq := fun (w' : World) => ptr_byte_same ⟨w.heap.size, 1, none⟩ w'
  unfold fExp
  generalize hX : w.alloc eight = X at *
  generalize hY : X.setCell ⟨w.heap.size, 0, none⟩ (.int .u8 101) = Y at *
  clear hC hT hA hi hN k0 hb hs
  go_enter Tryz.func327, Tryz.ntmps327
  go_wp2_with fail
  refine HA.out.mono ?_
  rintro e w2 ⟨rfl, hc, hk⟩
  have HCC := Lib.hid hc
  have HKK := Lib.hid hk
  clear hc hk
  obtain ⟨n1, n2⟩ := HN.out
  go_wp2_with fail
  go_quiet (fail)
  have f1 : wrap64 (1 + (N : Int)) = ((N + 1 : Nat) : Int) := by unfold wrap64; omega
  generalize hM : N + 1 = M at *
  have f2 : M ≤ 8 := by omega
  go_wp2_with fail
  go_ret2
  exact ⟨.slice (some ⟨w.heap.size, 0, none⟩) M 8, rfl, ⟨w.heap.size, 8, C, (0, 0), by rw [HT.out], HCC.out, HC.out⟩, (K0.out.trans HKK.out (fun _ _ h => h) (fun i hi h => by omega)).drewN _⟩
def expT (e : Int) : ByteArray := if e = -3 then ⟨#[101, 45, 51]⟩ else if e = 3 then ⟨#[101, 51]⟩ else if e = 6 then ⟨#[101, 54]⟩ else if e = 9 then ⟨#[101, 57]⟩ else if e = 12 then ⟨#[101, 49, 50]⟩ else if e = 15 then ⟨#[101, 49, 53]⟩ else ⟨#[101, 49, 56]⟩
theorem all_bytes (T : ByteArray) (C : Array Value) (h : (List.range T.size).all (fun j => match C[j]? with | some (.int .u8 x) => x == ((T.data[j]?.getD 0).toNat : Int) | _ => false) = true) : ∀ j (h : j < T.size), C[j]? = some (.int .u8 (T[j].toNat : Int)) := by
  intro j hj
  rw [List.all_eq_true] at h
  have h2 := h j (List.mem_range.2 hj)
  have h3 : T.data[j]? = some T[j] := by
    rw [Array.getElem?_eq_getElem (by exact hj)]
    rfl
  rw [h3] at h2
  split at h2
  · rename_i x heq
    rw [heq]
    have := eq_of_beq h2
    rw [this]
    rfl
  · cases h2
theorem construct_exp (d : Nat) (i : Int) (hi : i = -3 ∨ i = 3 ∨ i = 6 ∨ i = 9 ∨ i = 12 ∨ i = 15 ∨ i = 18) (w : World) : Calls Tryz.prog 327 #[.pointer (some ⟨d, 0, none⟩), .int .i32 10, .int .i32 i, fExp] w (ConsRes w (expT i)) := by
  have key : ∀ (x : Int) (t : ByteArray) (T : ByteArray), (0 < x ∧ x < 100) → (0 < t.size ∧ t.size ≤ 7) → (∀ w, Calls Tryz.prog 253 #[.int .i64 x] w (SmallR w t)) → T.size = t.size + 1 → (∀ j (h : j < T.size), (putL cur8 1 (Lib.strCells t))[j]? = some (.int .u8 (T[j].toNat : Int))) → Calls Tryz.prog 327 #[.pointer (some ⟨d, 0, none⟩), .int .i32 10, .int .i32 x, fExp] w (ConsRes w T) := by
    intro x t T hx ht hs h1 h2
    refine construct_one d x t.size (putL cur8 1 (Lib.strCells t)) T (by omega) ht h1 h2 ?_ w
    intro w g hg
    have := apInt x t (by omega) hs w g 1 0 7 cur8 hg (by omega) (by show 1 + 0 + t.size ≤ 8; omega)
    rw [Nat.zero_add] at this
    exact this
  rcases hi with rfl | rfl | rfl | rfl | rfl | rfl | rfl
  · refine construct_one d (-3) 2 (putL (putL cur8 1 [.int .u8 45]) 2 (Lib.strCells ⟨#[51]⟩)) (expT (-3)) (by omega) (by omega) rfl (all_bytes _ _ (by decide +kernel)) ?_ w
    intro w g hg
    exact apInt_m3 w g 1 7 cur8 hg (by omega) (by decide)
  · exact key 3 ⟨#[51]⟩ (expT 3) (by omega) (by decide) small_3 rfl (all_bytes _ _ (by decide +kernel))
  · exact key 6 ⟨#[54]⟩ (expT 6) (by omega) (by decide) small_6 rfl (all_bytes _ _ (by decide +kernel))
  · exact key 9 ⟨#[57]⟩ (expT 9) (by omega) (by decide) small_9 rfl (all_bytes _ _ (by decide +kernel))
  · exact key 12 ⟨#[49,50]⟩ (expT 12) (by omega) (by decide) small_12 rfl (all_bytes _ _ (by decide +kernel))
  · exact key 15 ⟨#[49,53]⟩ (expT 15) (by omega) (by decide) small_15 rfl (all_bytes _ _ (by decide +kernel))
  · exact key 18 ⟨#[49,56]⟩ (expT 18) (by omega) (by decide) small_18 rfl (all_bytes _ _ (by decide +kernel))
end Go.Proofs.YtjebnpkebccffaaGreatDoor
