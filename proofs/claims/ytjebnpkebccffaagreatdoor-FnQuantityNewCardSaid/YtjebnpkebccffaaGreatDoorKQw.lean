import Derived.Test.YtjebnpkebccffaaGreatDoorKMem
import Derived.Test.YtjebnpkebccffaaGreatDoorKPq
set_option linter.unusedSimpArgs false
set_option linter.unusedVariables false
set_option linter.unusedSectionVars false
namespace Go.Proofs.YtjebnpkebccffaaGreatDoor
open Go.RowKit
def allDg (s : ByteArray) : Bool := s.data.toList.all fun c => isDg c.toNat
structure QW where
  sign : Int
  num : ByteArray
  dot : Bool
  denom : ByteArray
  kind : Int
  place : Int
  upper : Bool
  psign : Int
  power : ByteArray
def QW.cells (q : QW) : Array Value := #[.int .i64 q.sign, .string q.num, .bool q.dot, .string q.denom, .int .i64 q.kind, .int .i64 q.place, .bool q.upper, .int .i64 q.psign, .string q.power]
structure QRight (q : QW) : Prop where
  num : allDg q.num = true
  denom : allDg q.denom = true
  some : q.num.size + q.denom.size ≠ 0
  dot : q.denom.size ≠ 0 → q.dot = true
  s0 : 0 ≤ q.sign
  s2 : q.sign ≤ 2
  kinds : (q.kind = 2 ∧ -1 ≤ q.place ∧ q.place ≤ 6) ∨ (q.kind = 1 ∧ 1 ≤ q.place ∧ q.place ≤ 6) ∨ (q.kind = 0 ∧ allDg q.power = true ∧ 0 < q.power.size ∧ q.power.size < 4 ∧ 0 ≤ q.psign ∧ q.psign ≤ 2)
end Go.Proofs.YtjebnpkebccffaaGreatDoor
namespace Go.Proofs.YtjebnpkebccffaaGreatDoor
open Go.RowKit
theorem conv_lit (w : World) (C : Array Value) (n : Nat) : (convert 57 57 (.slice (some ⟨w.heap.size, 0, none⟩) n n)).run Tryz.prog (w.alloc (.cells C 5)) = .ok (.slice (some ⟨w.heap.size, 0, none⟩) n n) (w.alloc (.cells C 5 (C.size, C.size + 1))) := by
  have hsh : (w.alloc (.cells C 5)).shape? w.heap.size = some (5, C.size) := by
    have : (w.alloc (.cells C 5)).heap[w.heap.size]? = some (.cells C 5) := heap_alloc_new _ _
    unfold World.shape?
    rw [this]
  have hm : ∀ (a : Array Obj) (x : Obj) (f : Obj → Obj), (a.push x).modify a.size f = a.push (f x) := by
    intro a x f
    apply Array.ext
    · simp
    · intro i h1 h2
      simp only [Array.getElem_modify, Array.getElem_push]
      by_cases h : a.size = i
      · subst h
        simp
      · have hi : i < a.size := by simp at h1; omega
        simp [h, hi]
  have hfr : (w.alloc (.cells C 5)).freeze ⟨w.heap.size, C.size, none⟩ 1 = w.alloc (.cells C 5 (C.size, C.size + 1)) := by
    unfold World.freeze
    rw [if_neg (by decide)]
    show ({ w.alloc (.cells C 5) with heap := (w.heap.push (.cells C 5)).modify w.heap.size _ } : World) = _
    rw [hm]
    rfl
  simp [convert, run_underlying Tryz.underlying57, run_underlying Tryz.underlying5, Result.andThen, markStringish, hsh]
  exact hfr
end Go.Proofs.YtjebnpkebccffaaGreatDoor
