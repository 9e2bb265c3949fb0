import Derived.Test.YtjebnpkebccffaaGreatDoorRows
import Derived.Test.YtjebnpkebccffaaGreatDoorKCbz
import Derived.ChangeSame
import Derived.ChangeVars
import Derived.JoinedOf
import Derived.RowKit
import Derived.RowKitTokens
import Derived.LaidLaws
import Derived.LaidMore
import Derived.OpenShut
import Derived.ProofKit
import Derived.Stop.LaidErr
import Derived.Stop.Joined
import Derived.Lib.LaidTab
import Derived.Lib.SmallJoins
import Derived.Carry
set_option linter.unusedSimpArgs false
set_option linter.unusedVariables false
set_option linter.unusedSectionVars false
namespace Go.Proofs.YtjebnpkebccffaaGreatDoor
open Go.ChangeShapes Go.WideShapes Go.ChangeAt Go.RowKit
theorem Tryz.star : "*" ++ "errors.errorString" = "*errors.errorString" := by decide
theorem Tryz.row257 (u : TypeId) (h : Tryz.prog.typeName? 3 u = some "*errors.errorString") : u = 257 :=
  typeName_ptr_named (nm := "errors.errorString") (by rw [Tryz.star]; kernel_rfl) (by kernel_rfl) (by decide) u (by rw [Tryz.star]; exact h)
theorem Tryz.cells259 : Tryz.prog.cellsOf 259 = 1 := by kernel_rfl
theorem Tryz.cells9 : Tryz.prog.cellsOf 9 = 1 := by kernel_rfl
theorem Tryz.cells3 : Tryz.prog.cellsOf 3 = 1 := by kernel_rfl
theorem Tryz.gFormat : Tryz.prog.globalNamed "pub-stockroom/pub/apimachinery/pkg/api/resource.ErrFormatWrong" = some 0 := by kernel_rfl
theorem Tryz.gSuffix : Tryz.prog.globalNamed "pub-stockroom/pub/apimachinery/pkg/api/resource.ErrSuffix" = some 1 := by kernel_rfl
theorem Tryz.gNumeric : Tryz.prog.globalNamed "pub-stockroom/pub/apimachinery/pkg/api/resource.ErrNumeric" = some 2 := by kernel_rfl
theorem Tryz.gEof : Tryz.prog.globalNamed "io.EOF" = some 3 := by kernel_rfl
theorem Tryz.gSyntax : Tryz.prog.globalNamed "strconv.ErrSyntax" = some 8 := by kernel_rfl
theorem Tryz.gLeaf : Tryz.prog.globalNamed "pub-stockroom/pub/bigall.leafSize" = some 19 := by kernel_rfl
theorem Tryz.tFormat : (Tryz.prog.globals[0]?).map (·.type) = some 68 := by kernel_rfl
theorem Tryz.tSuffix : (Tryz.prog.globals[1]?).map (·.type) = some 68 := by kernel_rfl
theorem Tryz.tNumeric : (Tryz.prog.globals[2]?).map (·.type) = some 68 := by kernel_rfl
theorem Tryz.tEof : (Tryz.prog.globals[3]?).map (·.type) = some 68 := by kernel_rfl
theorem Tryz.tSyntax : (Tryz.prog.globals[8]?).map (·.type) = some 68 := by kernel_rfl
theorem Tryz.tLeaf : (Tryz.prog.globals[19]?).map (·.type) = some 3 := by kernel_rfl
theorem one_sentinel {n : String} {text : List UInt8} {r : List (String × DataW Unit)} {W : World} {g : Nat} (h : laidMet Tryz.prog ((n, .iface "*errors.errorString" (.ptr (.agg [.lit (.string text)]))) :: r) W)
    (hg : Tryz.prog.globalNamed n = some g) (ht : (Tryz.prog.globals[g]?).map (·.type) = some 68) : ∃ a, W.cell? ⟨g, 0, none⟩ = some (.iface 257 (.pointer (some a))) := by
  obtain ⟨a, s, hv, -⟩ := laid_sentinel h hg ht Tryz.underlying68 Tryz.row257 Tryz.underlying257 Tryz.underlying259 rfl rfl Tryz.underlying9 Tryz.cells259 Tryz.cells9
  exact ⟨a, by simpa using World.var?_cell hg hv 0⟩
theorem one_int {n : String} {k : Int} {r : List (String × DataW Unit)} {W : World} {g : Nat} (h : laidMet Tryz.prog ((n, .lit (.int .i64 k)) :: r) W)
    (hg : Tryz.prog.globalNamed n = some g) (ht : (Tryz.prog.globals[g]?).map (·.type) = some 3) : W.cell? ⟨g, 0, none⟩ = some (.int .i64 k) := by
  obtain ⟨ps, ⟨g0, t0, cs0, f0, p0, q0, hg0, ht0, hv0, hd0, _, e0⟩, _, _⟩ := h
  obtain rfl := Option.some.inj (hg.symm.trans hg0)
  obtain rfl := Option.some.inj (ht.symm.trans ht0)
  obtain ⟨l0⟩ := cs0
  obtain ⟨k', e1, e2, _⟩ := DataW.trod_int Tryz.underlying3 hd0
  have hk : k' = k := by rw [Prod.mk.injEq] at e2; simpa using e2.1.symm
  subst hk
  have := World.var?_cell hg0 hv0 0
  subst e1
  simpa using this
set_option maxRecDepth 100000 in
theorem three_sentinels {n0 n1 n2 : String} {x0 x1 x2 : List UInt8} {r : List (String × DataW Unit)} {W : World} {g0' g1' g2' : Nat} (h : laidMet Tryz.prog ((n0, .iface "*errors.errorString" (.ptr (.agg [.lit (.string x0)]))) :: (n1, .iface "*errors.errorString" (.ptr (.agg [.lit (.string x1)]))) :: (n2, .iface "*errors.errorString" (.ptr (.agg [.lit (.string x2)]))) :: r) W)
    (gn0 : Tryz.prog.globalNamed n0 = some g0') (tn0 : (Tryz.prog.globals[g0']?).map (·.type) = some 68) (gn1 : Tryz.prog.globalNamed n1 = some g1') (tn1 : (Tryz.prog.globals[g1']?).map (·.type) = some 68) (gn2 : Tryz.prog.globalNamed n2 = some g2') (tn2 : (Tryz.prog.globals[g2']?).map (·.type) = some 68) :
    ∃ a0 a1 a2 : Addr, W.cell? ⟨g0', 0, none⟩ = some (.iface 257 (.pointer (some a0))) ∧ W.cell? ⟨g1', 0, none⟩ = some (.iface 257 (.pointer (some a1))) ∧ W.cell? ⟨g2', 0, none⟩ = some (.iface 257 (.pointer (some a2))) ∧
      (∃ c t, W.heap[a0.block]? = some (.cells c t (0, 0))) ∧ (∃ c t, W.heap[a1.block]? = some (.cells c t (0, 0))) ∧ (∃ c t, W.heap[a2.block]? = some (.cells c t (0, 0))) ∧ a0 ≠ a1 ∧ a0 ≠ a2 ∧ a1 ≠ a2 := by
  obtain ⟨ps, ⟨g0, t0, cs0, f0, p0, q0, hg0, ht0, hv0, hd0, ⟨g1, t1, cs1, f1, p1, q1, hg1, ht1, hv1, hd1, ⟨g2, t2, cs2, f2, p2, q2, hg2, ht2, hv2, hd2, _, e2⟩, e1⟩, e0⟩, hnd, hrows⟩ := h
  obtain rfl := Option.some.inj (gn0.symm.trans hg0)
  obtain rfl := Option.some.inj (gn1.symm.trans hg1)
  obtain rfl := Option.some.inj (gn2.symm.trans hg2)
  obtain rfl := Option.some.inj (tn0.symm.trans ht0)
  obtain rfl := Option.some.inj (tn1.symm.trans ht1)
  obtain rfl := Option.some.inj (tn2.symm.trans ht2)
  subst e2
  subst e1
  subst e0
  obtain ⟨l0⟩ := cs0
  obtain ⟨l1⟩ := cs1
  obtain ⟨l2⟩ := cs2
  have ok0 : ∀ u v, l0 = [.iface u v] → Value.okWide Tryz.prog W .any 0 u v := fun u v e => by
    subst e
    exact (hrows g0' 0 (by simp [MemPlace.row])).2 u v (by simpa using World.var?_cell hg0 hv0 0)
  have ok1 : ∀ u v, l1 = [.iface u v] → Value.okWide Tryz.prog W .any 0 u v := fun u v e => by
    subst e
    exact (hrows g1' 0 (by simp [MemPlace.row])).2 u v (by simpa using World.var?_cell hg1 hv1 0)
  have ok2 : ∀ u v, l2 = [.iface u v] → Value.okWide Tryz.prog W .any 0 u v := fun u v e => by
    subst e
    exact (hrows g2' 0 (by simp [MemPlace.row])).2 u v (by simpa using World.var?_cell hg2 hv2 0)
  obtain ⟨a0, s0, rfl, hc0, hs0, hz0, rfl⟩ := errorString_of_trod Tryz.underlying68 Tryz.row257 Tryz.underlying257 Tryz.underlying259 rfl rfl Tryz.underlying9 Tryz.cells259 Tryz.cells9 hd0 ok0
  obtain ⟨a1, s1, rfl, hc1, hs1, hz1, rfl⟩ := errorString_of_trod Tryz.underlying68 Tryz.row257 Tryz.underlying257 Tryz.underlying259 rfl rfl Tryz.underlying9 Tryz.cells259 Tryz.cells9 hd1 ok1
  obtain ⟨a2, s2, rfl, hc2, hs2, hz2, rfl⟩ := errorString_of_trod Tryz.underlying68 Tryz.row257 Tryz.underlying257 Tryz.underlying259 rfl rfl Tryz.underlying9 Tryz.cells259 Tryz.cells9 hd2 ok2
  obtain ⟨c0, t0, hb0⟩ := (hrows a0.block a0.off (by simp [MemPlace.row])).1
  obtain ⟨c1, t1, hb1⟩ := (hrows a1.block a1.off (by simp [MemPlace.row])).1
  obtain ⟨c2, t2, hb2⟩ := (hrows a2.block a2.off (by simp [MemPlace.row])).1
  refine ⟨a0, a1, a2, by simpa using World.var?_cell gn0 hv0 0, by simpa using World.var?_cell gn1 hv1 0, by simpa using World.var?_cell gn2 hv2 0, ⟨c0, t0, hb0⟩, ⟨c1, t1, hb1⟩, ⟨c2, t2, hb2⟩, ?_, ?_, ?_⟩
  · rintro rfl
    simp [MemPlace.row] at hnd
  · rintro rfl
    simp [MemPlace.row] at hnd
  · rintro rfl
    simp [MemPlace.row] at hnd
theorem globs_of {W : World} (h5 : ∃ a, W.cell? ⟨8, 0, none⟩ = some (.iface 257 (.pointer (some a)))) (h6 : ∃ a, W.cell? ⟨3, 0, none⟩ = some (.iface 257 (.pointer (some a)))) (h9 : W.cell? ⟨19, 0, none⟩ = some (.int .i64 8))
    (h14 : ∃ a0 a1 a2 : Addr, W.cell? ⟨0, 0, none⟩ = some (.iface 257 (.pointer (some a0))) ∧ W.cell? ⟨2, 0, none⟩ = some (.iface 257 (.pointer (some a1))) ∧ W.cell? ⟨1, 0, none⟩ = some (.iface 257 (.pointer (some a2))) ∧
      (∃ c t, W.heap[a0.block]? = some (.cells c t (0, 0))) ∧ (∃ c t, W.heap[a1.block]? = some (.cells c t (0, 0))) ∧ (∃ c t, W.heap[a2.block]? = some (.cells c t (0, 0))) ∧ a0 ≠ a1 ∧ a0 ≠ a2 ∧ a1 ≠ a2) : Globs W := by
  obtain ⟨a0, a1, a2, c0, c1, c2, b0, b1, b2, n1, n2, n3⟩ := h14
  obtain ⟨a5, h5⟩ := h5
  obtain ⟨a6, h6⟩ := h6
  exact ⟨⟨a0, a2, a1, ⟨c0, c2, c1, b0, b2, b1, n2, n1, n3.symm⟩⟩, ⟨a6, h6⟩, h9, 257, _, h5⟩
end Go.Proofs.YtjebnpkebccffaaGreatDoor
namespace Go.Proofs.YtjebnpkebccffaaGreatDoor
open Go.ChangeShapes Go.WideShapes Go.ChangeAt Go.RowKit
theorem Tryz.gTab10 : Tryz.prog.globalNamed "internal/strconv.uint64pow10" = some 18 := by kernel_rfl
theorem Tryz.tTab10 : (Tryz.prog.globals[18]?).map (·.type) = some 374 := by kernel_rfl
theorem tab10_data : (Rows.laid_internal_strconv_uint64pow10 : DataW Unit) = Lib.tabData .u64 Lib.pow10Tab := by kernel_rfl
theorem globs_new {W : World} (h : laidMet Tryz.prog Rows.fnQuantityNewRow.laid W) : Globs W ∧ Tab10 W := by
  have h1 := laidMet.tail h
  have h2 := laidMet.tail h1
  have h3 := laidMet.tail h2
  have h4 := laidMet.tail h3
  have h5 := laidMet.tail h4
  have h6 := laidMet.tail h5
  have h7 := laidMet.tail h6
  have h8 := laidMet.tail h7
  have h9 := laidMet.tail h8
  have h10 := laidMet.tail h9
  have h11 := laidMet.tail h10
  have h12 := laidMet.tail h11
  have h13 := laidMet.tail h12
  have h14 := laidMet.tail h13
  refine ⟨globs_of (one_sentinel h5 Tryz.gSyntax Tryz.tSyntax) (one_sentinel h6 Tryz.gEof Tryz.tEof) (one_int h9 Tryz.gLeaf Tryz.tLeaf) (three_sentinels h14 Tryz.gFormat Tryz.tFormat Tryz.gNumeric Tryz.tNumeric Tryz.gSuffix Tryz.tSuffix), ?_⟩
  rw [tab10_data] at h2
  exact Lib.tabIs_of_head Tryz.gTab10 Tryz.tTab10 Tryz.underlying374 (by kernel_rfl) (by kernel_rfl) (by kernel_rfl) h2
end Go.Proofs.YtjebnpkebccffaaGreatDoor
