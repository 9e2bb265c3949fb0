import Derived.Test.YtjebnpkebccffaaGreatDoorRows
import Derived.Test.YtjebnpkebccffaaGreatDoorJStr
import Derived.ChangeSame
import Derived.ChangeVars
import Derived.JoinedOf
import Derived.RowKit
import Derived.RowKitTokens
import Derived.LaidLaws
import Derived.LaidMore
import Derived.OpenShut
import Derived.ProofKit
import Derived.Stop.LaidErr
import Derived.Stop.Joined
import Derived.Lib.SmallJoins
import Derived.Carry
set_option linter.unusedSimpArgs false
set_option linter.unusedVariables false
set_option linter.unusedSectionVars false
namespace Go.Proofs.YtjebnpkebccffaaGreatDoor
open Go.ChangeShapes Go.WideShapes Go.ChangeAt Go.RowKit
/-! ### What the listed variables give the walks -/
theorem Tryz.star : "*" ++ "errors.errorString" = "*errors.errorString" := by decide
theorem Tryz.row257 (u : TypeId) (h : Tryz.prog.typeName? 3 u = some "*errors.errorString") : u = 257 :=
  typeName_ptr_named (nm := "errors.errorString") (by rw [Tryz.star]; kernel_rfl) (by kernel_rfl) (by decide) u (by rw [Tryz.star]; exact h)
theorem Tryz.cells259 : Tryz.prog.cellsOf 259 = 1 := by kernel_rfl
theorem Tryz.cells9 : Tryz.prog.cellsOf 9 = 1 := by kernel_rfl
theorem Tryz.cells3 : Tryz.prog.cellsOf 3 = 1 := by kernel_rfl
theorem Tryz.gFormat : Tryz.prog.globalNamed "pub-stockroom/pub/apimachinery/pkg/api/resource.ErrFormatWrong" = some 0 := by kernel_rfl
theorem Tryz.gSuffix : Tryz.prog.globalNamed "pub-stockroom/pub/apimachinery/pkg/api/resource.ErrSuffix" = some 1 := by kernel_rfl
theorem Tryz.gNumeric : Tryz.prog.globalNamed "pub-stockroom/pub/apimachinery/pkg/api/resource.ErrNumeric" = some 2 := by kernel_rfl
theorem Tryz.gEof : Tryz.prog.globalNamed "io.EOF" = some 3 := by kernel_rfl
theorem Tryz.gSyntax : Tryz.prog.globalNamed "strconv.ErrSyntax" = some 8 := by kernel_rfl
theorem Tryz.gLeaf : Tryz.prog.globalNamed "pub-stockroom/pub/bigall.leafSize" = some 19 := by kernel_rfl
theorem Tryz.tFormat : (Tryz.prog.globals[0]?).map (·.type) = some 68 := by kernel_rfl
theorem Tryz.tSuffix : (Tryz.prog.globals[1]?).map (·.type) = some 68 := by kernel_rfl
theorem Tryz.tNumeric : (Tryz.prog.globals[2]?).map (·.type) = some 68 := by kernel_rfl
theorem Tryz.tEof : (Tryz.prog.globals[3]?).map (·.type) = some 68 := by kernel_rfl
theorem Tryz.tSyntax : (Tryz.prog.globals[8]?).map (·.type) = some 68 := by kernel_rfl
theorem Tryz.tLeaf : (Tryz.prog.globals[19]?).map (·.type) = some 3 := by kernel_rfl
/-- One sentinel at the head of the list: the variable's cell. -/
theorem one_sentinel {n : String} {text : List UInt8} {r : List (String × DataW Unit)} {W : World} {g : Nat} (h : laidMet Tryz.prog ((n, .iface "*errors.errorString" (.ptr (.agg [.lit (.string text)]))) :: r) W)
    (hg : Tryz.prog.globalNamed n = some g) (ht : (Tryz.prog.globals[g]?).map (·.type) = some 68) : ∃ a, W.cell? ⟨g, 0, none⟩ = some (.iface 257 (.pointer (some a))) := by
  obtain ⟨a, s, hv, -⟩ := laid_sentinel h hg ht Tryz.underlying68 Tryz.row257 Tryz.underlying257 Tryz.underlying259 rfl rfl Tryz.underlying9 Tryz.cells259 Tryz.cells9
  exact ⟨a, by simpa using World.var?_cell hg hv 0⟩
/-- An int at the head of the list. -/
theorem one_int {n : String} {k : Int} {r : List (String × DataW Unit)} {W : World} {g : Nat} (h : laidMet Tryz.prog ((n, .lit (.int .i64 k)) :: r) W)
    (hg : Tryz.prog.globalNamed n = some g) (ht : (Tryz.prog.globals[g]?).map (·.type) = some 3) : W.cell? ⟨g, 0, none⟩ = some (.int .i64 k) := by
  obtain ⟨ps, ⟨g0, t0, cs0, f0, p0, q0, hg0, ht0, hv0, hd0, _, e0⟩, _, _⟩ := h
  obtain rfl := Option.some.inj (hg.symm.trans hg0)
  obtain rfl := Option.some.inj (ht.symm.trans ht0)
  obtain ⟨l0⟩ := cs0
  obtain ⟨k', e1, e2, _⟩ := DataW.trod_int Tryz.underlying3 hd0
  have hk : k' = k := by rw [Prod.mk.injEq] at e2; simpa using e2.1.symm
  subst hk
  have := World.var?_cell hg0 hv0 0
  subst e1
  simpa using this
set_option maxRecDepth 100000 in
/-- Three sentinels at the head of the list: three pointers, each to a block that nothing marks. -/
theorem three_sentinels {n0 n1 n2 : String} {x0 x1 x2 : List UInt8} {r : List (String × DataW Unit)} {W : World} {g0' g1' g2' : Nat} (h : laidMet Tryz.prog ((n0, .iface "*errors.errorString" (.ptr (.agg [.lit (.string x0)]))) :: (n1, .iface "*errors.errorString" (.ptr (.agg [.lit (.string x1)]))) :: (n2, .iface "*errors.errorString" (.ptr (.agg [.lit (.string x2)]))) :: r) W)
    (gn0 : Tryz.prog.globalNamed n0 = some g0') (tn0 : (Tryz.prog.globals[g0']?).map (·.type) = some 68) (gn1 : Tryz.prog.globalNamed n1 = some g1') (tn1 : (Tryz.prog.globals[g1']?).map (·.type) = some 68) (gn2 : Tryz.prog.globalNamed n2 = some g2') (tn2 : (Tryz.prog.globals[g2']?).map (·.type) = some 68) :
    ∃ a0 a1 a2 : Addr, W.cell? ⟨g0', 0, none⟩ = some (.iface 257 (.pointer (some a0))) ∧ W.cell? ⟨g1', 0, none⟩ = some (.iface 257 (.pointer (some a1))) ∧ W.cell? ⟨g2', 0, none⟩ = some (.iface 257 (.pointer (some a2))) ∧
      (∃ c t, W.heap[a0.block]? = some (.cells c t (0, 0))) ∧ (∃ c t, W.heap[a1.block]? = some (.cells c t (0, 0))) ∧ (∃ c t, W.heap[a2.block]? = some (.cells c t (0, 0))) ∧ a0 ≠ a1 ∧ a0 ≠ a2 ∧ a1 ≠ a2 := by
  obtain ⟨ps, ⟨g0, t0, cs0, f0, p0, q0, hg0, ht0, hv0, hd0, ⟨g1, t1, cs1, f1, p1, q1, hg1, ht1, hv1, hd1, ⟨g2, t2, cs2, f2, p2, q2, hg2, ht2, hv2, hd2, _, e2⟩, e1⟩, e0⟩, hnd, hrows⟩ := h
  obtain rfl := Option.some.inj (gn0.symm.trans hg0)
  obtain rfl := Option.some.inj (gn1.symm.trans hg1)
  obtain rfl := Option.some.inj (gn2.symm.trans hg2)
  obtain rfl := Option.some.inj (tn0.symm.trans ht0)
  obtain rfl := Option.some.inj (tn1.symm.trans ht1)
  obtain rfl := Option.some.inj (tn2.symm.trans ht2)
  subst e2
  subst e1
  subst e0
  obtain ⟨l0⟩ := cs0
  obtain ⟨l1⟩ := cs1
  obtain ⟨l2⟩ := cs2
  have ok0 : ∀ u v, l0 = [.iface u v] → Value.okWide Tryz.prog W .any 0 u v := fun u v e => by
    subst e
    exact (hrows g0' 0 (by simp [MemPlace.row])).2 u v (by simpa using World.var?_cell hg0 hv0 0)
  have ok1 : ∀ u v, l1 = [.iface u v] → Value.okWide Tryz.prog W .any 0 u v := fun u v e => by
    subst e
    exact (hrows g1' 0 (by simp [MemPlace.row])).2 u v (by simpa using World.var?_cell hg1 hv1 0)
  have ok2 : ∀ u v, l2 = [.iface u v] → Value.okWide Tryz.prog W .any 0 u v := fun u v e => by
    subst e
    exact (hrows g2' 0 (by simp [MemPlace.row])).2 u v (by simpa using World.var?_cell hg2 hv2 0)
  obtain ⟨a0, s0, rfl, hc0, hs0, hz0, rfl⟩ := errorString_of_trod Tryz.underlying68 Tryz.row257 Tryz.underlying257 Tryz.underlying259 rfl rfl Tryz.underlying9 Tryz.cells259 Tryz.cells9 hd0 ok0
  obtain ⟨a1, s1, rfl, hc1, hs1, hz1, rfl⟩ := errorString_of_trod Tryz.underlying68 Tryz.row257 Tryz.underlying257 Tryz.underlying259 rfl rfl Tryz.underlying9 Tryz.cells259 Tryz.cells9 hd1 ok1
  obtain ⟨a2, s2, rfl, hc2, hs2, hz2, rfl⟩ := errorString_of_trod Tryz.underlying68 Tryz.row257 Tryz.underlying257 Tryz.underlying259 rfl rfl Tryz.underlying9 Tryz.cells259 Tryz.cells9 hd2 ok2
  obtain ⟨c0, t0, hb0⟩ := (hrows a0.block a0.off (by simp [MemPlace.row])).1
  obtain ⟨c1, t1, hb1⟩ := (hrows a1.block a1.off (by simp [MemPlace.row])).1
  obtain ⟨c2, t2, hb2⟩ := (hrows a2.block a2.off (by simp [MemPlace.row])).1
  refine ⟨a0, a1, a2, by simpa using World.var?_cell gn0 hv0 0, by simpa using World.var?_cell gn1 hv1 0, by simpa using World.var?_cell gn2 hv2 0, ⟨c0, t0, hb0⟩, ⟨c1, t1, hb1⟩, ⟨c2, t2, hb2⟩, ?_, ?_, ?_⟩
  · rintro rfl
    simp [MemPlace.row] at hnd
  · rintro rfl
    simp [MemPlace.row] at hnd
  · rintro rfl
    simp [MemPlace.row] at hnd
theorem globs_of {W : World} (h5 : ∃ a, W.cell? ⟨8, 0, none⟩ = some (.iface 257 (.pointer (some a)))) (h6 : ∃ a, W.cell? ⟨3, 0, none⟩ = some (.iface 257 (.pointer (some a)))) (h9 : W.cell? ⟨19, 0, none⟩ = some (.int .i64 8))
    (h14 : ∃ a0 a1 a2 : Addr, W.cell? ⟨0, 0, none⟩ = some (.iface 257 (.pointer (some a0))) ∧ W.cell? ⟨2, 0, none⟩ = some (.iface 257 (.pointer (some a1))) ∧ W.cell? ⟨1, 0, none⟩ = some (.iface 257 (.pointer (some a2))) ∧
      (∃ c t, W.heap[a0.block]? = some (.cells c t (0, 0))) ∧ (∃ c t, W.heap[a1.block]? = some (.cells c t (0, 0))) ∧ (∃ c t, W.heap[a2.block]? = some (.cells c t (0, 0))) ∧ a0 ≠ a1 ∧ a0 ≠ a2 ∧ a1 ≠ a2) : Globs W := by
  obtain ⟨a0, a1, a2, c0, c1, c2, b0, b1, b2, n1, n2, n3⟩ := h14
  obtain ⟨a5, h5⟩ := h5
  obtain ⟨a6, h6⟩ := h6
  exact ⟨⟨a0, a2, a1, ⟨c0, c2, c1, b0, b2, b1, n2, n1, n3.symm⟩⟩, ⟨a6, h6⟩, h9, 257, _, h5⟩
theorem globs_strange {W : World} (h : laidMet Tryz.prog Rows.fnQuantityStrangeRow.laid W) : Globs W := by
  have h1 := laidMet.tail h
  have h2 := laidMet.tail h1
  have h3 := laidMet.tail h2
  have h4 := laidMet.tail h3
  have h5 := laidMet.tail h4
  have h6 := laidMet.tail h5
  have h7 := laidMet.tail h6
  have h8 := laidMet.tail h7
  have h9 := laidMet.tail h8
  have h10 := laidMet.tail h9
  have h11 := laidMet.tail h10
  have h12 := laidMet.tail h11
  have h13 := laidMet.tail h12
  have h14 := laidMet.tail h13
  exact globs_of (one_sentinel h5 Tryz.gSyntax Tryz.tSyntax) (one_sentinel h6 Tryz.gEof Tryz.tEof) (one_int h9 Tryz.gLeaf Tryz.tLeaf) (three_sentinels h14 Tryz.gFormat Tryz.tFormat Tryz.gNumeric Tryz.tNumeric Tryz.gSuffix Tryz.tSuffix)
end Go.Proofs.YtjebnpkebccffaaGreatDoor
namespace Go.Proofs.YtjebnpkebccffaaGreatDoor
open Go.ChangeShapes Go.WideShapes Go.ChangeAt Go.RowKit
/-! ### A word that came in as an argument -/
section
open Go.Joins Go.Deep
variable {H : Type} {enc : TypeId × Value → H} {P : Program} {w : World} {base : Nat} {spare : Nat → Bool} {held : Bool}
theorem open_agg9 {r : Reach} {b0 : Nat} {t : TypeId} {f0 f1 f2 f3 f4 f5 f6 f7 f8 : Field} {v : Value} {d : DataW H} {p : List MemPlace} (hs : P.underlying t = some (.struct #[f0, f1, f2, f3, f4, f5, f6, f7, f8])) (hone : oneCellFields P #[f0, f1, f2, f3, f4, f5, f6, f7, f8] = true) (hC : P.cellsOf t = 9)
    (hv : Value.okWide P w r b0 t v) (h : DataW.Trod enc P w base spare held t v d p) :
    ∃ (v0 v1 v2 v3 v4 v5 v6 v7 v8 : Value) (y0 y1 y2 y3 y4 y5 y6 y7 y8 : DataW H × List MemPlace) (n : Nat), v = .agg #[v0, v1, v2, v3, v4, v5, v6, v7, v8] ∧
      DataW.trod enc P w base spare held n f0.type [v0] = some y0 ∧ DataW.trod enc P w base spare held n f1.type [v1] = some y1 ∧ DataW.trod enc P w base spare held n f2.type [v2] = some y2 ∧ DataW.trod enc P w base spare held n f3.type [v3] = some y3 ∧ DataW.trod enc P w base spare held n f4.type [v4] = some y4 ∧ DataW.trod enc P w base spare held n f5.type [v5] = some y5 ∧ DataW.trod enc P w base spare held n f6.type [v6] = some y6 ∧ DataW.trod enc P w base spare held n f7.type [v7] = some y7 ∧ DataW.trod enc P w base spare held n f8.type [v8] = some y8 := by
  obtain ⟨cs, rfl, hsz⟩ := okWide_struct hs hv
  obtain ⟨l⟩ := cs
  match l, hsz.trans hC with
  | [c0, c1, c2, c3, c4, c5, c6, c7, c8], _ =>
    obtain ⟨fuel, hf⟩ := h
    obtain ⟨xs, n, _, hx, _, hlen, hg⟩ := DataW.trod_struct hs hf
    obtain ⟨o0, k0⟩ := hone_of hone 0 f0 rfl
    obtain ⟨o1, k1⟩ := hone_of hone 1 f1 rfl
    obtain ⟨o2, k2⟩ := hone_of hone 2 f2 rfl
    obtain ⟨o3, k3⟩ := hone_of hone 3 f3 rfl
    obtain ⟨o4, k4⟩ := hone_of hone 4 f4 rfl
    obtain ⟨o5, k5⟩ := hone_of hone 5 f5 rfl
    obtain ⟨o6, k6⟩ := hone_of hone 6 f6 rfl
    obtain ⟨o7, k7⟩ := hone_of hone 7 f7 rfl
    obtain ⟨o8, k8⟩ := hone_of hone 8 f8 rfl
    match xs, hlen with
    | [y0, y1, y2, y3, y4, y5, y6, y7, y8], _ =>
      exact ⟨c0, c1, c2, c3, c4, c5, c6, c7, c8, y0, y1, y2, y3, y4, y5, y6, y7, y8, n, rfl, by simpa [Value.cells, o0, k0] using hg 0 f0 rfl, by simpa [Value.cells, o1, k1] using hg 1 f1 rfl, by simpa [Value.cells, o2, k2] using hg 2 f2 rfl, by simpa [Value.cells, o3, k3] using hg 3 f3 rfl, by simpa [Value.cells, o4, k4] using hg 4 f4 rfl, by simpa [Value.cells, o5, k5] using hg 5 f5 rfl, by simpa [Value.cells, o6, k6] using hg 6 f6 rfl, by simpa [Value.cells, o7, k7] using hg 7 f7 rfl, by simpa [Value.cells, o8, k8] using hg 8 f8 rfl⟩
end
set_option maxRecDepth 100000 in
/-- A word that came in: its fields. -/
theorem open_word {H : Type} {enc : TypeId × Value → H} {W : World} {base b0 : Nat} {spare : Nat → Bool} {held : Bool} {v : Value} {d : DataW H} {p : List MemPlace} (hv : Value.okWide Tryz.prog W .any b0 23 v) (h : DataW.Trod enc Tryz.prog W base spare held 23 v d p) : ∃ q : QW, v = .agg q.cells := by
  obtain ⟨v0, v1, v2, v3, v4, v5, v6, v7, v8, y0, y1, y2, y3, y4, y5, y6, y7, y8, n, rfl, h0, h1, h2, h3, h4, h5, h6, h7, h8⟩ := open_agg9 Tryz.underlying23 (by kernel_rfl) (by kernel_rfl) hv h
  obtain ⟨a0, e0, -⟩ := DataW.trod_int Tryz.underlying3 h0
  obtain ⟨a1, e1, -⟩ := DataW.trod_string Tryz.underlying9 h1
  obtain ⟨a2, e2, -⟩ := DataW.trod_bool Tryz.underlying4 h2
  obtain ⟨a3, e3, -⟩ := DataW.trod_string Tryz.underlying9 h3
  obtain ⟨a4, e4, -⟩ := DataW.trod_int Tryz.underlying3 h4
  obtain ⟨a5, e5, -⟩ := DataW.trod_int Tryz.underlying3 h5
  obtain ⟨a6, e6, -⟩ := DataW.trod_bool Tryz.underlying4 h6
  obtain ⟨a7, e7, -⟩ := DataW.trod_int Tryz.underlying3 h7
  obtain ⟨a8, e8, -⟩ := DataW.trod_string Tryz.underlying9 h8
  injection e0 with e0; injection e1 with e1; injection e2 with e2; injection e3 with e3; injection e4 with e4; injection e5 with e5; injection e6 with e6; injection e7 with e7; injection e8 with e8
  subst e0 e1 e2 e3 e4 e5 e6 e7 e8
  exact ⟨⟨a0, a1, a2, a3, a4, a5, a6, a7, a8⟩, rfl⟩
end Go.Proofs.YtjebnpkebccffaaGreatDoor
