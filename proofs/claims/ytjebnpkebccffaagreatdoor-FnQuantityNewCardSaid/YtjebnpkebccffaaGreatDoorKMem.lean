import Derived.Test.YtjebnpkebccffaaGreatDoorProg
import Derived.Test.YtjebnpkebccffaaGreatDoorKNum
import Derived.WalkKit
import Derived.Laws.CopyOwn
import Derived.Lib.Hide
import Derived.BigQuiet
import Derived.Deep.QuietTactic
import Derived.WalkSpells
import Derived.WalkLawsBesides
set_option linter.unusedSimpArgs false
set_option linter.unusedVariables false
set_option linter.unusedSectionVars false
namespace Go.Proofs.YtjebnpkebccffaaGreatDoor
open Go.RowKit
theorem beqF {a b : Int} (h : a ≠ b) : (a == b) = false := beq_false_of_ne h
theorem beqT {a b : Int} (h : a = b) : (a == b) = true := by rw [h]; exact beq_self_eq_true b
theorem decF {p : Prop} [Decidable p] (h : ¬ p) : decide p = false := decide_eq_false h
theorem decT {p : Prop} [Decidable p] (h : p) : decide p = true := decide_eq_true h
structure Kept (S : Nat → Prop) (w w' : World) : Prop where
  os : w'.os = w.os
  tape : w'.tape = w.tape
  output : w'.output = w.output
  size : w.heap.size ≤ w'.heap.size
  block : ∀ k, k < w.heap.size → ¬ S k → w'.heap[k]? = w.heap[k]?
theorem Kept.refl (S : Nat → Prop) (w : World) : Kept S w w := ⟨rfl, rfl, rfl, Nat.le_refl _, fun _ _ _ => rfl⟩
theorem Kept.trans {S T U : Nat → Prop} {a b c : World} (h : Kept S a b) (k : Kept T b c) (hS : ∀ i, i < a.heap.size → S i → U i) (hT : ∀ i, i < a.heap.size → T i → U i) : Kept U a c :=
  ⟨k.os.trans h.os, k.tape.trans h.tape, k.output.trans h.output, Nat.le_trans h.size k.size,
   fun i hi hu => (k.block i (Nat.lt_of_lt_of_le hi h.size) (fun ht => hu (hT i hi ht))).trans (h.block i hi (fun hs => hu (hS i hi hs)))⟩
theorem Kept.same {S : Nat → Prop} {a b c : World} (h : Kept S a b) (k : Kept S b c) : Kept S a c := h.trans k (fun _ _ h => h) (fun _ _ h => h)
theorem Kept.mono {S U : Nat → Prop} {a b : World} (h : Kept S a b) (hS : ∀ i, i < a.heap.size → S i → U i) : Kept U a b :=
  ⟨h.os, h.tape, h.output, h.size, fun i hi hu => h.block i hi (fun hs => hu (hS i hi hs))⟩
theorem Kept.alloc {S : Nat → Prop} {a b : World} (h : Kept S a b) (o : Obj) : Kept S a (b.alloc o) :=
  ⟨h.os, h.tape, h.output, by have := h.size; simp; omega, fun k hk hs => (Below.heap_alloc _ _ _ (by have := h.size; omega)).trans (h.block k hk hs)⟩
theorem Kept.setCell {S : Nat → Prop} {a b : World} (h : Kept S a b) (p : Addr) (u : Value) (hp : p.block < a.heap.size → S p.block) : Kept S a (b.setCell p u) :=
  ⟨h.os, h.tape, h.output, by simpa using h.size, fun k hk hs => (Below.heap_setCell _ _ _ _ (fun e => hs (by subst e; exact hp hk))).trans (h.block k hk hs)⟩
theorem Kept.drew {S : Nat → Prop} {a b : World} (h : Kept S a b) : Kept S a b.drew := ⟨h.os, h.tape, h.output, h.size, h.block⟩
theorem Kept.drewN {S : Nat → Prop} {a b : World} (h : Kept S a b) (n : Nat) : Kept S a (b.drewN n) := ⟨h.os, h.tape, h.output, h.size, h.block⟩
theorem Kept.below {w w' : World} (h : Kept (fun _ => False) w w') : Below w.heap.size w w' := ⟨h.os, h.tape, h.output, h.size, fun k hk => h.block k hk (fun f => f)⟩
theorem Kept.ofBelow {w w' : World} (h : Below w.heap.size w w') (S : Nat → Prop) : Kept S w w' := ⟨h.os, h.tape, h.output, h.size, fun k hk _ => h.block k hk⟩
theorem Kept.at {S : Nat → Prop} {w w' : World} (h : Kept S w w') {k : Nat} {o : Obj} (ho : w.heap[k]? = some o) (hs : ¬ S k) : w'.heap[k]? = some o := by
  have hk : k < w.heap.size := by
    rcases Nat.lt_or_ge k w.heap.size with h' | h'
    · exact h'
    · rw [Array.getElem?_eq_none h'] at ho; cases ho
  rw [h.block k hk hs, ho]
theorem heap_lt {w : World} {k : Nat} {o : Obj} (ho : w.heap[k]? = some o) : k < w.heap.size := by
  rcases Nat.lt_or_ge k w.heap.size with h' | h'
  · exact h'
  · rw [Array.getElem?_eq_none h'] at ho; cases ho
theorem cell_of {w : World} {b : Nat} {cs : Array Value} {T : TypeId} {fz : Nat × Nat} (h : w.heap[b]? = some (.cells cs T fz)) (i : Nat) : w.cell? ⟨b, i, none⟩ = cs[i]? := by
  simp [World.cell?, h]
theorem frozen_of {w : World} {b : Nat} {cs : Array Value} {T : TypeId} (h : w.heap[b]? = some (.cells cs T (0, 0))) (i : Nat) : w.frozen? ⟨b, i, none⟩ = false := by
  simp [World.frozen?, h]
theorem heap_set_same {w : World} {b : Nat} {cs : Array Value} {T : TypeId} {fz : Nat × Nat} (h : w.heap[b]? = some (.cells cs T fz)) (i : Nat) (v : Value) : (w.setCell ⟨b, i, none⟩ v).heap[b]? = some (.cells (cs.setIfInBounds i v) T fz) := by
  simp [World.setCell, Array.getElem?_modify, h]
theorem heap_set_ne {w : World} {k b i : Nat} {v : Value} (h : k ≠ b) : (w.setCell ⟨b, i, none⟩ v).heap[k]? = w.heap[k]? := Below.heap_setCell _ _ _ _ h
theorem heap_alloc_new (w : World) (o : Obj) : (w.alloc o).heap[w.heap.size]? = some o := by
  show (w.heap.push o)[w.heap.size]? = _
  simp
def putWords (w : World) (b o : Nat) : List Nat → World
  | [] => w
  | x :: l => putWords (w.setCell ⟨b, o, none⟩ (.int .u64 (x : Int))) b (o + 1) l
def putC (cs : Array Value) (o : Nat) : List Nat → Array Value
  | [] => cs
  | x :: l => putC (cs.setIfInBounds o (.int .u64 (x : Int))) (o + 1) l
theorem putWords_snoc (w : World) (b o : Nat) (l : List Nat) (x : Nat) : putWords w b o (l ++ [x]) = (putWords w b o l).setCell ⟨b, o + l.length, none⟩ (.int .u64 (x : Int)) := by
  induction l generalizing w o with
  | nil => simp [putWords]
  | cons y l ih => simp only [List.cons_append, putWords, List.length_cons, ih]; congr 2; omega
theorem putC_size (cs : Array Value) (o : Nat) (l : List Nat) : (putC cs o l).size = cs.size := by
  induction l generalizing cs o with
  | nil => rfl
  | cons x l ih => simp [putC, ih]
theorem putWords_block {w : World} {b : Nat} {cs : Array Value} {T : TypeId} {fz : Nat × Nat} (h : w.heap[b]? = some (.cells cs T fz)) (o : Nat) (l : List Nat) : (putWords w b o l).heap[b]? = some (.cells (putC cs o l) T fz) := by
  induction l generalizing w o cs with
  | nil => exact h
  | cons x l ih => exact ih (heap_set_same h _ _) (o + 1)
theorem putWords_ne (w : World) {b k : Nat} (o : Nat) (l : List Nat) (h : k ≠ b) : (putWords w b o l).heap[k]? = w.heap[k]? := by
  induction l generalizing w o with
  | nil => rfl
  | cons x l ih => rw [putWords, ih, heap_set_ne h]
theorem putWords_kept {S : Nat → Prop} {a w : World} (h : Kept S a w) (b o : Nat) (l : List Nat) (hb : b < a.heap.size → S b) : Kept S a (putWords w b o l) := by
  induction l generalizing w o with
  | nil => exact h
  | cons x l ih => exact ih (h.setCell _ _ hb) (o + 1)
theorem putC_at (cs : Array Value) (o : Nat) (l : List Nat) (i : Nat) (h1 : o ≤ i) (h2 : i < o + l.length) (h3 : i < cs.size) : (putC cs o l)[i]? = some (.int .u64 (l.getD (i - o) 0 : Nat)) := by
  induction l generalizing cs o with
  | nil => simp at h2; omega
  | cons x l ih =>
    simp only [putC]
    rcases Nat.lt_or_ge o i with h | h
    · rw [ih _ (o + 1) (by omega) (by simp at h2; omega) (by simpa using h3)]
      congr 3
      rw [show i - o = (i - (o + 1)) + 1 by omega]
      simp
    · have : i = o := by omega
      subst this
      have e : ∀ (l : List Nat) (cs : Array Value) (o' : Nat), i < o' → (putC cs o' l)[i]? = cs[i]? := by
        intro l
        induction l with
        | nil => intros; rfl
        | cons y l ih2 =>
          intro cs o' ho
          rw [putC, ih2 _ _ (by omega), Array.getElem?_setIfInBounds, if_neg (by omega)]
      rw [e _ _ _ (by omega), Array.getElem?_setIfInBounds, if_pos rfl, if_pos h3]
      simp
theorem putC_off (cs : Array Value) (o : Nat) (l : List Nat) (i : Nat) (h : i < o ∨ o + l.length ≤ i) : (putC cs o l)[i]? = cs[i]? := by
  induction l generalizing cs o with
  | nil => rfl
  | cons y l ih =>
    simp only [List.length_cons] at h
    rw [putC, ih _ _ (by omega), Array.getElem?_setIfInBounds, if_neg (by omega)]
def Has (cs : Array Value) (o : Nat) (l : List Nat) : Prop := ∀ i, i < l.length → cs[o + i]? = some (.int .u64 (l.getD i 0 : Nat))
theorem putC_has (cs : Array Value) (o : Nat) (l : List Nat) (h : o + l.length ≤ cs.size) : Has (putC cs o l) o l := by
  intro i hi
  rw [putC_at cs o l (o + i) (by omega) (by omega) (by omega)]
  congr 3; congr 1; omega
theorem putWords_reads {w : World} {zb zo xb xo : Nat} {cz cx : Array Value} {Tz Tx : TypeId} {fz fx : Nat × Nat} {xs l : List Nat} (hz : w.heap[zb]? = some (.cells cz Tz fz)) (hx : w.heap[xb]? = some (.cells cx Tx fx)) (hxc : Has cx xo xs)
    (j : Nat) (hj : j < xs.length) (hsep : zb = xb → zo + l.length ≤ xo + j ∨ xo + j < zo) : (putWords w zb zo l).cell? ⟨xb, xo + j, none⟩ = some (.int .u64 ((xs.getD j 0 : Nat) : Int)) := by
  by_cases he : zb = xb
  · subst he
    rw [hz] at hx
    injection hx with hx
    injection hx with h1 h2 h3
    subst h1
    rw [cell_of (putWords_block hz zo l), putC_off _ _ _ _ (by rcases hsep rfl with h | h; exact Or.inr h; exact Or.inl h)]
    exact hxc j hj
  · rw [cell_of ((putWords_ne w zo l (Ne.symm he)).trans hx)]
    exact hxc j hj
theorem putWords_next {w : World} {zb zo : Nat} {cz : Array Value} {Tz : TypeId} {l : List Nat} (hz : w.heap[zb]? = some (.cells cz Tz (0, 0))) (j : Nat) (hl : l.length = j) (hj : zo + j < cz.size) :
    (∃ u, (putWords w zb zo l).cell? ⟨zb, zo + j, none⟩ = some u) ∧ (putWords w zb zo l).frozen? ⟨zb, zo + j, none⟩ = false := by
  have h := putWords_block hz zo l
  refine ⟨⟨cz[zo + j], ?_⟩, frozen_of h _⟩
  rw [cell_of h, putC_off _ _ _ _ (Or.inr (by omega))]
  exact Array.getElem?_eq_getElem hj
def BufAt (w : World) (v : Value) : Option Nat → Prop
  | none => v = .slice none 0 0
  | some k => ∃ l cs, v = .slice (some ⟨k, 0, none⟩) l cs.size ∧ w.heap[k]? = some (.cells cs 165 (0, 0)) ∧ l ≤ cs.size ∧ 0 < cs.size ∧ cs.size ≤ 1000000
def NatAt (w : World) (v : Value) (n : Nat) : Option Nat → Prop
  | none => v = .slice none 0 0 ∧ n = 0
  | some k => ∃ cs, v = .slice (some ⟨k, 0, none⟩) (dig n).length cs.size ∧ w.heap[k]? = some (.cells cs 165 (0, 0)) ∧ (dig n).length ≤ cs.size ∧ 0 < cs.size ∧ cs.size ≤ 1000000 ∧ Has cs 0 (dig n)
theorem NatAt.buf {w : World} {v : Value} {n : Nat} {b : Option Nat} (h : NatAt w v n b) : BufAt w v b := by
  cases b with
  | none => exact h.1
  | some k => obtain ⟨cs, h1, h2, h3, h4, h5, _⟩ := h; exact ⟨_, cs, h1, h2, h3, h4, h5⟩
theorem NatAt.lt {w : World} {v : Value} {n k : Nat} (h : NatAt w v n (some k)) : k < w.heap.size := by
  obtain ⟨cs, _, h2, _⟩ := h; exact heap_lt h2
theorem BufAt.lt {w : World} {v : Value} {k : Nat} (h : BufAt w v (some k)) : k < w.heap.size := by
  obtain ⟨l, cs, _, h2, _⟩ := h; exact heap_lt h2
theorem NatAt.move {w w' : World} {v : Value} {n : Nat} {b : Option Nat} (h : NatAt w v n b) (hk : ∀ k, b = some k → w'.heap[k]? = w.heap[k]?) : NatAt w' v n b := by
  cases b with
  | none => exact h
  | some k => obtain ⟨cs, h1, h2, h3⟩ := h; exact ⟨cs, h1, (hk k rfl).trans h2, h3⟩
theorem BufAt.move {w w' : World} {v : Value} {b : Option Nat} (h : BufAt w v b) (hk : ∀ k, b = some k → w'.heap[k]? = w.heap[k]?) : BufAt w' v b := by
  cases b with
  | none => exact h
  | some k => obtain ⟨l, cs, h1, h2, h3⟩ := h; exact ⟨l, cs, h1, (hk k rfl).trans h2, h3⟩
theorem NatAt.kept {S : Nat → Prop} {w w' : World} {v : Value} {n : Nat} {b : Option Nat} (h : NatAt w v n b) (hk : Kept S w w') (hs : ∀ k, b = some k → ¬ S k) : NatAt w' v n b :=
  h.move fun k hb => by subst hb; exact hk.block k h.lt (hs k rfl)
theorem BufAt.kept {S : Nat → Prop} {w w' : World} {v : Value} {b : Option Nat} (h : BufAt w v b) (hk : Kept S w w') (hs : ∀ k, b = some k → ¬ S k) : BufAt w' v b :=
  h.move fun k hb => by subst hb; exact hk.block k h.lt (hs k rfl)
theorem setRow_putC {w : World} {b : Nat} {cs : Array Value} {T : TypeId} (h : w.heap[b]? = some (.cells cs T (0, 0))) (o : Nat) (l : List Nat) : putWords w b o l = w.setRow b (putC cs o l) := by
  induction l generalizing w o cs with
  | nil => exact (setRow_self w b cs T (0, 0) h).symm
  | cons x l ih =>
    rw [putWords, ih (heap_set_same h _ _), setCell_eq_setRow w b o cs T (0, 0) _ h, setRow_setRow]
    rfl
theorem putC_list (cs : Array Value) (o : Nat) (l : List Nat) (h : o + l.length ≤ cs.size) : (cs.toList.take o ++ (l.map (fun x => Value.int .u64 ((x : Nat) : Int)) ++ cs.toList.drop (o + l.length))).toArray = putC cs o l := by
  apply Array.ext_getElem?
  intro i
  rw [List.getElem?_toArray]
  rcases Nat.lt_or_ge i o with h1 | h1
  · rw [putC_off _ _ _ _ (Or.inl h1), List.getElem?_append_left (by simp; omega), List.getElem?_take, if_pos h1, Array.getElem?_toList]
  · rw [List.getElem?_append_right (by simp; omega)]
    simp only [List.length_take, Array.length_toList]
    rw [Nat.min_eq_left (by omega)]
    rcases Nat.lt_or_ge i (o + l.length) with h2 | h2
    · rw [putC_at cs o l i h1 h2 (by omega), List.getElem?_append_left (by simp; omega)]
      rw [List.getElem?_map, List.getD_eq_getElem?_getD, List.getElem?_eq_getElem (by omega)]
      rfl
    · rw [putC_off _ _ _ _ (Or.inr h2), List.getElem?_append_right (by simp; omega)]
      simp only [List.length_map]
      rw [List.getElem?_drop, Array.getElem?_toList]
      congr 1; omega
theorem wpList_copy_words {w : World} {ops : Array Oper} {rest : List Oper} {o : Oper} {a : Act} {Q : Exit → Act → World → Prop} (hgd : o.guard = none) (d s : Operand) (dT sT : TypeId)
    (ho : o.op = .call { callee := .builtin .copy, args := #[d, s], argTypes := #[dT, sT] }) (hu : Tryz.prog.underlying dT = some (.slice 165))
    (g off dLen dCap sb so sLen sCap : Nat) (hd : a.eval d = .slice (some ⟨g, off, none⟩) dLen dCap) (hs : a.eval s = .slice (some ⟨sb, so, none⟩) sLen sCap)
    (cur : Array Value) (t : TypeId) (hg : w.heap[g]? = some (.cells cur t (0, 0))) (cx : Array Value) (tx : TypeId) (fx : Nat × Nat) (hx : w.heap[sb]? = some (.cells cx tx fx)) (l : List Nat) (hn : l.length = Nat.min sLen dLen)
    (hsrc : Has cx so l) (hfit : off + l.length ≤ cur.size)
    (h : wpList Tryz.prog ops Q rest (a.put o.dst (goInt l.length)) (putWords w g off l)) : wpList Tryz.prog ops Q (o :: rest) a w := by
  refine wpList_copy_own hgd d s dT sT ho 165 hu (by kernel_rfl) g off dLen dCap ⟨sb, so, none⟩ sLen sCap hd hs cur t hg (l.map fun x => Value.int .u64 ((x : Nat) : Int)) (by simpa using hn) ?_ (by simpa using hfit) ?_ ?_
  · intro j v hj
    rw [List.getElem?_map] at hj
    obtain ⟨x, hx1, hx2⟩ := Option.map_eq_some_iff.1 hj
    have hj' := (List.getElem?_eq_some_iff.1 hx1).1
    rw [Addr.add_lit]
    rw [cell_of hx, hsrc j hj', ← hx2, List.getD_eq_getElem?_getD, hx1]
    rfl
  · intro v hv
    obtain ⟨_, _, rfl⟩ := List.mem_map.1 hv
    rfl
  · rw [setRow_putC hg] at h
    simp only [List.length_map]
    rw [putC_list cur off l hfit]
    exact h
def zw (n : Nat) : Array Value := madeCells #[.int .u64 0] n
theorem zw_size (n : Nat) : (zw n).size = n := size_madeCells _ _
theorem Tryz.info165 : (Tryz.prog.info? 165).map (fun i => (i.zero, i.size, i.bytes)) = some (some (.int .u64 0), 1, 8) := by kernel_rfl
theorem word_make (t : TypeId) (ht : Tryz.prog.underlying t = some (.slice 165)) (n c : Nat) (L C : Int) (hL : L = n) (hC : C = c) (h1 : n ≤ c) (h2 : c ≤ 1000000) (w : World) :
    (Instr.makeSlice t (.int .i64 L) (.int .i64 C)).run Tryz.prog w = .ok (.slice (some ⟨w.heap.size, 0, none⟩) n c) (w.alloc (.cells (zw c) 165)) := by
  obtain ⟨i0, hi, hz0, hz1, hz2⟩ := info_parts Tryz.info165
  subst hL
  subst hC
  have := run_make (P := Tryz.prog) w t 165 i0 _ ht hi hz0 .i64 .i64 n c (by omega) (by omega) (by rw [hz2]; omega) (by omega)
  rw [this]
  simp only [Int.toNat_natCast, hz1, Nat.mul_one]
  rfl
def Made (w : World) (b : Option Nat) (n : Nat) (e : Ending) (w' : World) : Prop :=
  ∃ k cs, e = .returned (.slice (some ⟨k, 0, none⟩) n cs.size) ∧ w'.heap[k]? = some (.cells cs 165 (0, 0)) ∧ n ≤ cs.size ∧ 0 < cs.size ∧ cs.size ≤ 1000000 ∧ ((b = some k ∧ w' = w) ∨ (k = w.heap.size ∧ w' = w.alloc (.cells cs 165)))
end Go.Proofs.YtjebnpkebccffaaGreatDoor
