import Derived.Test.YtjebnpkebccffaaGreatDoorKMem
import Derived.Test.YtjebnpkebccffaaGreatDoorKParse
import Derived.Test.YtjebnpkebccffaaGreatDoorKIntp
import Derived.LaidEql
import Derived.Stop.Asserts
import Derived.RowKitTokens
set_option linter.unusedSimpArgs false
set_option linter.unusedVariables false
set_option linter.unusedSectionVars false
namespace Go.Proofs.YtjebnpkebccffaaGreatDoor
open Go.RowKit Go.Extern.Stop Go.Stop Go.Extern
structure Errs (w : World) (a b c : Addr) : Prop where
  g0 : w.cell? ⟨0, 0, none⟩ = some (.iface 257 (.pointer (some a)))
  g1 : w.cell? ⟨1, 0, none⟩ = some (.iface 257 (.pointer (some b)))
  g2 : w.cell? ⟨2, 0, none⟩ = some (.iface 257 (.pointer (some c)))
  ha : ∃ ca ta, w.heap[a.block]? = some (.cells ca ta (0, 0))
  hb : ∃ cb tb, w.heap[b.block]? = some (.cells cb tb (0, 0))
  hc : ∃ cc tc, w.heap[c.block]? = some (.cells cc tc (0, 0))
  nab : a ≠ b
  nac : a ≠ c
  nbc : b ≠ c
theorem cell_lt {w : World} {b i : Nat} {v : Value} (h : w.cell? ⟨b, i, none⟩ = some v) : b < w.heap.size := by
  rcases Nat.lt_or_ge b w.heap.size with h' | h'
  · exact h'
  · have : w.heap[b]? = none := Array.getElem?_eq_none h'
    simp [World.cell?, this] at h
theorem cell_same {w w' : World} {b i : Nat} {v : Value} (hk : Kept (fun _ => False) w w') (h : w.cell? ⟨b, i, none⟩ = some v) : w'.cell? ⟨b, i, none⟩ = some v := by
  have hb := hk.block b (cell_lt h) (fun f => f)
  rw [← h]; simp [World.cell?, hb]
theorem Errs.kept {w w' : World} {a b c : Addr} (h : Errs w a b c) (hk : Kept (fun _ => False) w w') : Errs w' a b c := by
  obtain ⟨ca, ta, h1⟩ := h.ha
  obtain ⟨cb, tb, h2⟩ := h.hb
  obtain ⟨cc, tc, h3⟩ := h.hc
  exact ⟨cell_same hk h.g0, cell_same hk h.g1, cell_same hk h.g2, ⟨ca, ta, hk.at h1 (fun f => f)⟩, ⟨cb, tb, hk.at h2 (fun f => f)⟩, ⟨cc, tc, hk.at h3 (fun f => f)⟩, h.nab, h.nac, h.nbc⟩
end Go.Proofs.YtjebnpkebccffaaGreatDoor
namespace Go.Proofs.YtjebnpkebccffaaGreatDoor
open Go.RowKit
def zQ : Array Value := #[.int .i64 0, .int .i32 0, .pointer none, .string ⟨#[]⟩, .string ⟨#[]⟩]
theorem build66 (w : World) : (Instr.build 66 #[]).run Tryz.prog w = .ok (.agg zQ) w := run_build w 66 _ _ (by kernel_rfl)
theorem e_nn0 (w : World) : (binOp .neq 68 .nilIface .nilIface).run Tryz.prog w = .ok (.bool false) w := by kernel_rfl
theorem store5 {w : World} {q : Nat} {a0 a1 a2 a3 a4 : Value} (h : w.heap[q]? = some (.cells #[a0, a1, a2, a3, a4] 66 (0, 0))) (v0 v1 v2 v3 v4 : Value) :
    (((((w.setCell ⟨q, 0, none⟩ v0).setCell ⟨q, 1, none⟩ v1).setCell ⟨q, 2, none⟩ v2).setCell ⟨q, 3, none⟩ v3).setCell ⟨q, 4, none⟩ v4).heap[q]? = some (.cells #[v0, v1, v2, v3, v4] 66 (0, 0)) ∧ Kept (fun i => i = q) w (((((w.setCell ⟨q, 0, none⟩ v0).setCell ⟨q, 1, none⟩ v1).setCell ⟨q, 2, none⟩ v2).setCell ⟨q, 3, none⟩ v3).setCell ⟨q, 4, none⟩ v4) := by
  refine ⟨?_, ((((((Kept.refl (fun i => i = q) w).setCell _ _ (fun _ => rfl)).setCell _ _ (fun _ => rfl)).setCell _ _ (fun _ => rfl)).setCell _ _ (fun _ => rfl)).setCell _ _ (fun _ => rfl))⟩
  have h0 := heap_set_same h 0 v0
  have h1 := heap_set_same h0 1 v1
  have h2 := heap_set_same h1 2 v2
  have h3 := heap_set_same h2 3 v3
  have h4 := heap_set_same h3 4 v4
  rw [h4]
  simp
def hb5 (w : World) (q : Nat) (a0 a1 a2 a3 a4 : Value) : Prop := w.heap[q]? = some (.cells #[a0, a1, a2, a3, a4] 66 (0, 0))
theorem cells5 {w : World} {q : Nat} {a0 a1 a2 a3 a4 : Value} (h : w.heap[q]? = some (.cells #[a0, a1, a2, a3, a4] 66 (0, 0))) :
    w.cell? ⟨q, 0, none⟩ = some a0 ∧ w.cell? ⟨q, 1, none⟩ = some a1 ∧ w.cell? ⟨q, 2, none⟩ = some a2 ∧ w.cell? ⟨q, 3, none⟩ = some a3 ∧ w.cell? ⟨q, 4, none⟩ = some a4 :=
  ⟨by rw [cell_of h]; rfl, by rw [cell_of h]; rfl, by rw [cell_of h]; rfl, by rw [cell_of h]; rfl, by rw [cell_of h]; rfl⟩
end Go.Proofs.YtjebnpkebccffaaGreatDoor
