import Derived.Test.YtjebnpkebccffaaGreatDoorKInt
import Derived.Test.YtjebnpkebccffaaGreatDoorKPq
import Derived.Deep.AppendSrc
import Derived.Deep.Upon
import Derived.WalkSpells
set_option linter.unusedSimpArgs false
set_option linter.unusedVariables false
set_option linter.unusedSectionVars false
namespace Go.Proofs.YtjebnpkebccffaaGreatDoor
open Go.RowKit
def HasI (cs : Array Value) (o : Nat) (l : List Nat) : Prop := ∀ i, i < l.length → cs[o + i]? = some (.int .i64 (l.getD i 0 : Nat))
def NsAt (w : World) (v : Value) (l : List Nat) : Option Nat → Prop
  | none => v = .slice none 0 0 ∧ l = []
  | some b => ∃ o cap cs, v = .slice (some ⟨b, o, none⟩) l.length cap ∧ l.length ≤ cap ∧ o + cap ≤ cs.size ∧ w.heap[b]? = some (.cells cs 3 (0, 0)) ∧ HasI cs o l
theorem NsAt.lt {w : World} {v : Value} {l : List Nat} {b : Option Nat} (h : NsAt w v l b) : ∀ k, b = some k → k < w.heap.size := by
  intro k hk
  subst hk
  obtain ⟨o, cap, cs, _, _, _, h, _⟩ := h
  exact heap_lt h
theorem NsAt.kept {S : Nat → Prop} {w w' : World} {v : Value} {l : List Nat} {b : Option Nat} (h : NsAt w v l b) (hk : Kept S w w') (hs : ∀ k, b = some k → ¬ S k) : NsAt w' v l b := by
  cases b with
  | none => exact h
  | some k =>
    obtain ⟨o, cap, cs, h1, h2, h3, h4, h5⟩ := h
    exact ⟨o, cap, cs, h1, h2, h3, hk.at h4 (hs k rfl), h5⟩
theorem NsAt.old {w w' : World} {v : Value} {l : List Nat} {b : Option Nat} (h : NsAt w v l b) (hk : Kept (fun _ => False) w w') : NsAt w' v l b := h.kept hk (fun _ _ f => f)
def putV (cs : Array Value) (o : Nat) : List Value → Array Value
  | [] => cs
  | v :: l => putV (cs.setIfInBounds o v) (o + 1) l
theorem putV_size (cs : Array Value) (o : Nat) (l : List Value) : (putV cs o l).size = cs.size := by
  induction l generalizing cs o with
  | nil => rfl
  | cons v l ih => simp [putV, ih]
theorem putV_at (cs : Array Value) (o : Nat) (l : List Value) (i : Nat) : (putV cs o l)[i]? = if o ≤ i ∧ i < o + l.length ∧ i < cs.size then l[i - o]? else cs[i]? := by
  induction l generalizing cs o with
  | nil => simp [putV]; intro h1 h2; omega
  | cons v l ih =>
    simp only [putV, ih, List.length_cons, Array.size_setIfInBounds]
    by_cases h1 : o + 1 ≤ i ∧ i < o + 1 + l.length ∧ i < cs.size
    · rw [if_pos h1, if_pos (by omega), show i - o = (i - (o + 1)) + 1 by omega, List.getElem?_cons_succ]
    · rw [if_neg h1]
      by_cases h2 : i = o
      · subst h2
        by_cases h3 : i < cs.size
        · rw [if_pos (by omega)]; simp [h3]
        · rw [if_neg (by omega)]; simp [Array.getElem?_setIfInBounds, h3]
      · rw [Array.getElem?_setIfInBounds, if_neg (fun e => h2 e.symm), if_neg (by omega)]
theorem setCells_block {w : World} {b : Nat} {cs : Array Value} {T : TypeId} {fz : Nat × Nat} (h : w.heap[b]? = some (.cells cs T fz)) (o : Nat) (vs : List Value) : (w.setCells b o vs).heap[b]? = some (.cells (putV cs o vs) T fz) := by
  induction vs generalizing w cs o with
  | nil => exact h
  | cons v vs ih => exact ih (heap_set_same h o v) (o + 1)
theorem setCells_kept {S : Nat → Prop} {w a : World} (h : Kept S w a) (b o : Nat) (vs : List Value) (hb : b < w.heap.size → S b) : Kept S w (a.setCells b o vs) := by
  induction vs generalizing a o with
  | nil => exact h
  | cons v vs ih => exact ih (h.setCell _ _ hb) (o + 1)
def iv (l : List Nat) : List Value := l.map fun d => .int .i64 ((d : Nat) : Int)
theorem iv_get (l : List Nat) (i : Nat) (h : i < l.length) : (iv l)[i]? = some (.int .i64 (l.getD i 0 : Nat)) := by
  simp [iv, h, List.getD]
theorem ns_src {w : World} {v : Value} {l : List Nat} {b : Option Nat} (h : NsAt w v l b) : Src Tryz.prog 1 28 v l.length (iv l) w := by
  cases b with
  | none =>
    obtain ⟨rfl, rfl⟩ := h
    exact Src.ofNil w Tryz.underlying28 0
  | some k =>
    obtain ⟨o, cap, cs, rfl, h2, h3, h4, h5⟩ := h
    refine Src.ofSlice w Tryz.underlying28 ⟨k, o, none⟩ l.length cap (iv l) (by simp [iv]) (fun j u hj => ?_) (fun u hu => ?_)
    · have hj' : j < l.length := by have := (List.getElem?_eq_some_iff.1 hj).1; simpa [iv] using this
      rw [iv_get l j hj'] at hj
      injection hj with hj
      have e : (⟨k, o, none⟩ : Addr).add j = ⟨k, o + j, none⟩ := by simp [Addr.add]
      rw [e, cell_of h4, h5 j hj', hj]
    · simp only [iv, List.mem_map] at hu
      obtain ⟨d, _, rfl⟩ := hu
      rfl
theorem Tryz.info3 : (Tryz.prog.info? 3).map (fun i => (i.zero, i.size, i.bytes)) = some (some (.int .i64 0), 1, 8) := by kernel_rfl
theorem ns_append {w : World} {x y : Value} {xs ys : List Nat} {b c : Option Nat} (hx : NsAt w x xs b) (hy : NsAt w y ys c) (hlen : xs.length + ys.length ≤ 1000000) :
    ∃ r w' b', (∀ ty, (Builtin.append_ #[28, 28] ty #[x, y]).run Tryz.prog w = .ok r w') ∧ NsAt w' r (xs ++ ys) b' ∧ Kept (fun i => b = some i) w w' ∧ Own w b b' := by
  obtain ⟨i0, hi, hz0, hz1, hz2⟩ := info_parts Tryz.info3
  have hsrc := ns_src hy
  cases ys with
  | nil =>
    have hle : ∃ base l cap, x = .slice base l cap ∧ l ≤ cap := by
      cases b with
      | none => obtain ⟨rfl, rfl⟩ := hx; exact ⟨none, 0, 0, rfl, Nat.le_refl _⟩
      | some k => obtain ⟨o, cap, cs, rfl, h2, _⟩ := hx; exact ⟨_, _, _, rfl, h2⟩
    obtain ⟨base, l, cap, rfl, hle⟩ := hle
    refine ⟨_, w, b, fun ty => run_append_nothing w 28 28 ty 3 i0 Tryz.underlying28 hi base l cap hle y (by rw [hz1]; exact hsrc), by simpa using hx, Kept.refl _ _, Or.inl rfl⟩
  | cons y0 yr =>
    generalize hys : y0 :: yr = ys at *
    have hpos : 0 < ys.length := by rw [← hys]; simp
    by_cases hroom : ∃ k o cap cs, b = some k ∧ x = .slice (some ⟨k, o, none⟩) xs.length cap ∧ xs.length + ys.length ≤ cap ∧ o + cap ≤ cs.size ∧ w.heap[k]? = some (.cells cs 3 (0, 0)) ∧ HasI cs o xs
    · obtain ⟨k, o, cap, cs, rfl, rfl, h1, h2, h3, h4⟩ := hroom
      have hl : (iv ys).length = ys.length := by simp [iv]
      refine ⟨_, _, some k, fun ty => run_append_room_src w 28 28 ty 3 i0 Tryz.underlying28 hi k o xs.length cap y ys.length (iv ys) (by rw [hz1]; exact hsrc) h1 (fun j hj => ?_) (fun j hj => frozen_of h3 _), ?_, ?_, Or.inl rfl⟩
      · rw [cell_of h3, hz1]
        have : o + xs.length + j < cs.size := by omega
        simp [this]
      · rw [hz1, Nat.mul_one]
        refine ⟨o, cap, putV cs (o + xs.length) (iv ys), by simp, by simpa using h1, by rw [putV_size]; exact h2, setCells_block h3 _ _, fun i hi' => ?_⟩
        simp only [List.length_append] at hi'
        rw [putV_at]
        by_cases hi2 : i < xs.length
        · rw [if_neg (by omega), h4 i hi2]
          simp [List.getD, List.getElem?_append_left hi2]
        · rw [if_pos (by omega), show o + i - (o + xs.length) = i - xs.length by omega, iv_get _ _ (by omega)]
          simp [List.getD, List.getElem?_append_right (show xs.length ≤ i by omega)]
      · exact setCells_kept (Kept.refl _ _) _ _ _ (fun _ => rfl)
    · have hgrow : ∃ base cap, x = .slice base xs.length cap ∧ cap < xs.length + ys.length ∧ (Builtin.firstCells i0.size xs.length x).run Tryz.prog w.drew = .ok (iv xs).toArray w.drew := by
        rw [hz1]
        cases b with
        | none =>
          obtain ⟨rfl, rfl⟩ := hx
          exact ⟨none, 0, rfl, by simpa using hpos, run_firstCells_none w.drew 1 0 0 0⟩
        | some k =>
          obtain ⟨o, cap, cs, rfl, h2, h3, h4, h5⟩ := hx
          refine ⟨_, cap, rfl, ?_, (ns_src (w := w) (v := .slice (some ⟨k, o, none⟩) xs.length cap) (b := some k) ⟨o, cap, cs, rfl, h2, h3, h4, h5⟩).cellsD⟩
          rcases Nat.lt_or_ge cap (xs.length + ys.length) with h | h
          · exact h
          · exact absurd ⟨k, o, cap, cs, rfl, rfl, h, h3, h4, h5⟩ hroom
      obtain ⟨base, cap, rfl, hcap, hfc⟩ := hgrow
      have hge := grownCap_ge w (xs.length + ys.length) cap 3
      refine ⟨_, _, some w.heap.size, fun ty => run_append_grow_src w 28 28 ty 3 i0 _ Tryz.underlying28 hi hz0 base xs.length cap (iv xs) hfc y ys.length (iv ys) (by rw [hz1]; exact hsrc) hcap (by omega) (growslice_fits hcap (by rw [hz2]; omega)), ?_, (Kept.refl _ _).drew.alloc _, Or.inr ⟨_, rfl, Nat.le_refl _⟩⟩
      refine ⟨0, _, _, by rw [List.length_append], by rw [List.length_append]; exact hge, ?_, heap_alloc_new w.drew _, fun i hi' => ?_⟩
      · simp [iv, Builtin.zeroCells, Value.cells]
        omega
      · rw [Nat.zero_add, Array.getElem?_append_left (by simp [iv]; simpa using hi')]
        have : (iv xs ++ iv ys) = iv (xs ++ ys) := by simp [iv]
        rw [this]
        simpa using iv_get (xs ++ ys) i hi'
end Go.Proofs.YtjebnpkebccffaaGreatDoor
namespace Go.Proofs.YtjebnpkebccffaaGreatDoor
open Go.RowKit
structure Dm where
  neg : Bool
  ds : List Nat
  e : Int
def lead (l : List Nat) : Nat := (l.takeWhile (· == 0)).length
def trail (l : List Nat) : Nat := lead l.reverse
def decL (neg : Bool) (l : List Nat) (e : Int) : Dm :=
  if lead l = l.length then ⟨false, [], 0⟩ else ⟨neg, (l.drop (lead l)).take (l.length - lead l - trail l), e + trail l⟩
def DmAt (w : World) (v : Value) (d : Dm) : Prop := ∃ s b, v = .agg #[.bool d.neg, s, .int .i64 d.e] ∧ NsAt w s d.ds b
theorem DmAt.old {w w' : World} {v : Value} {d : Dm} (h : DmAt w v d) (hk : Kept (fun _ => False) w w') : DmAt w' v d := by
  obtain ⟨s, b, h1, h2⟩ := h
  exact ⟨s, b, h1, h2.old hk⟩
def DmRes (w : World) (d : Dm) (e : Ending) (w' : World) : Prop := ∃ v, e = .returned v ∧ DmAt w' v d ∧ Kept (fun _ => False) w w'
def slen : Value → Nat
  | .slice _ n _ => n
  | _ => 0
theorem lead_le (l : List Nat) : lead l ≤ l.length := by
  unfold lead
  induction l with
  | nil => simp
  | cons x l ih => rw [List.takeWhile_cons]; split <;> simp <;> omega
theorem lead_at : ∀ (l : List Nat) (i : Nat), i < lead l → l.getD i 0 = 0
  | [], i, h => by simp [lead] at h
  | x :: l, i, h => by
    unfold lead at h
    by_cases hx : x = 0
    · subst hx
      cases i with
      | zero => rfl
      | succ i =>
        simp at h
        simpa using lead_at l i h
    · simp [hx] at h
theorem lead_stop : ∀ (l : List Nat), lead l < l.length → l.getD (lead l) 0 ≠ 0
  | [], h => by simp [lead] at h
  | x :: l, h => by
    by_cases hx : x = 0
    · subst hx
      have e : lead (0 :: l) = lead l + 1 := by simp [lead]
      rw [e] at h ⊢
      simpa using lead_stop l (by simpa using h)
    · have e : lead (x :: l) = 0 := by simp [lead, hx]
      rw [e]
      simpa using hx
theorem lead_eq {l : List Nat} {i : Nat} (hi : i ≤ l.length) (h0 : ∀ j, j < i → l.getD j 0 = 0) (h1 : i = l.length ∨ l.getD i 0 ≠ 0) : lead l = i := by
  rcases Nat.lt_trichotomy (lead l) i with h | h | h
  · exact absurd (h0 _ h) (lead_stop l (by omega))
  · exact h
  · rcases h1 with h1 | h1
    · have := lead_le l; omega
    · exact absurd (lead_at l i h) h1
theorem rev_getD (l : List Nat) (j : Nat) (h : j < l.length) : l.reverse.getD j 0 = l.getD (l.length - 1 - j) 0 := by
  simp [List.getD, List.getElem?_reverse h]
theorem wpList_append28 {w w' : World} {ops : Array Oper} {rest : List Oper} {o : Oper} {a : Act} {Q : Exit → Act → World → Prop} (hg : o.guard = none) (s x : Operand) (hop : o.op = Op.call { callee := Callee.builtin Builtin.append, args := #[s, x], argTypes := #[28, 28] })
    (u t v : Value) (hs : a.eval s = u) (hx : a.eval x = t) (hrun : ∀ ty, (Builtin.append_ #[28, 28] ty #[u, t]).run Tryz.prog w = .ok v w')
    (hK : wpList Tryz.prog ops Q rest (a.put o.dst v) w') : wpList Tryz.prog ops Q (o :: rest) a w := by
  refine wpList_plain hg fun K hK' => ?_
  unfold Oper.wp
  simp [execOp, hop, resolve, invoke, builtin, hs, hx, hrun, Result.andThen]
  exact hK' _ _ hK
theorem build30 (a : Bool) (p : Option Addr) (n m : Nat) (c : Int) (w : World) : (Instr.build 30 #[(0, .bool a), (1, .slice p n m), (2, .int .i64 c)]).run Tryz.prog w = .ok (.agg #[.bool a, .slice p n m, .int .i64 c]) w := run_build w 30 _ _ (by kernel_rfl)
theorem build30z (w : World) : (Instr.build 30 #[]).run Tryz.prog w = .ok (.agg #[.bool false, .slice none 0 0, .int .i64 0]) w := run_build w 30 _ _ (by kernel_rfl)
theorem store3 {w : World} {q : Nat} {a0 a1 a2 : Value} {T : TypeId} (h : w.heap[q]? = some (.cells #[a0, a1, a2] T (0, 0))) (v0 v1 v2 : Value) :
    (((w.setCell ⟨q, 0, none⟩ v0).setCell ⟨q, 1, none⟩ v1).setCell ⟨q, 2, none⟩ v2).heap[q]? = some (.cells #[v0, v1, v2] T (0, 0)) ∧ Kept (fun i => i = q) w (((w.setCell ⟨q, 0, none⟩ v0).setCell ⟨q, 1, none⟩ v1).setCell ⟨q, 2, none⟩ v2) := by
  refine ⟨?_, ((((Kept.refl (fun i => i = q) w).setCell _ _ (fun _ => rfl)).setCell _ _ (fun _ => rfl)).setCell _ _ (fun _ => rfl))⟩
  have h2 := heap_set_same (heap_set_same (heap_set_same h 0 v0) 1 v1) 2 v2
  rw [h2]
  simp
theorem cells3 {w : World} {q : Nat} {a0 a1 a2 : Value} {T : TypeId} {fz : Nat × Nat} (h : w.heap[q]? = some (.cells #[a0, a1, a2] T fz)) : w.cell? ⟨q, 0, none⟩ = some a0 ∧ w.cell? ⟨q, 1, none⟩ = some a1 ∧ w.cell? ⟨q, 2, none⟩ = some a2 :=
  ⟨by rw [cell_of h]; rfl, by rw [cell_of h]; rfl, by rw [cell_of h]; rfl⟩
set_option maxRecDepth 100000 in
set_option maxHeartbeats 2000000 in
theorem decimal_at (neg : Bool) (b o cap : Nat) (cs : Array Value) (l : List Nat) (e : Int) (w : World) (hcap : l.length ≤ cap) (hsz : o + cap ≤ cs.size) (hb : w.heap[b]? = some (.cells cs 3 (0, 0))) (hl : HasI cs o l) (hlen : l.length ≤ 100000) (he : -1000000 ≤ e ∧ e ≤ 1000000) :
    Calls Tryz.prog 36 #[.bool neg, .slice (some ⟨b, o, none⟩) l.length cap, .int .i64 e] w (DmRes w (decL neg l e)) := by
  have k0 : Kept (fun _ => False) w (w.alloc (.cells #[.bool false, .slice none 0 0, .int .i64 0] 30)) := (Kept.refl _ _).alloc _
  have h0 := heap_alloc_new w (.cells #[.bool false, .slice none 0 0, .int .i64 0] 30)
  have b0 := k0.at hb (fun f => f)
  have HN := Lib.hid h0
  have K0 := Lib.hid k0
  have HL := Lib.hid hl
  obtain ⟨q, hq⟩ : ∃ q, q = w.heap.size := ⟨_, rfl⟩
  have cell : ∀ (w' : World) (j : Nat), w'.heap[b]? = some (.cells cs 3 (0, 0)) → j < l.length → w'.cell? ⟨b, o + j, none⟩ = some (.int .i64 (l.getD j 0 : Nat)) := fun w' j h hj => by rw [cell_of h]; exact hl j hj
  have CELL := Lib.hid cell
  have B0 := Lib.hid b0
  clear h0 k0 b0 hl hb cell
  go_enter Tryz.func36, Tryz.ntmps36
  go_wp2_with fail
  generalize hW : w.alloc (.cells #[.bool false, .slice none 0 0, .int .i64 0] 30) = W at *
  clear hW
  go_loop [1] (fun v => ∃ i o', i ≤ l.length ∧ v = .slice (some ⟨b, o', none⟩) (l.length - i) (cap - i) ∧ (i < l.length → o' = o + i) ∧ ∀ j, j < i → l.getD j 0 = 0) (fun v => slen v)
  case atStart => exact ⟨0, o, by omega, by simp, fun _ => rfl, fun j h => by omega⟩
  case round =>
    obtain ⟨i, o', hi, rfl, ho, hz⟩ := hrel
    have HZ := Lib.hid hz
    clear hz
    rcases Nat.lt_or_ge i l.length with hlt | hge
    · obtain rfl := ho hlt
      have c := CELL.out _ i B0.out hlt
      by_cases h0 : l.getD i 0 = 0
      · rw [h0] at c
        have H0 := Lib.hid h0
        clear h0
        go_wp2_with fail
        go_round
        case rel =>
          have hz' : ∀ j, j < i + 1 → l.getD j 0 = 0 := fun j hj => by
            by_cases hji : j = i
            · rw [hji]; exact H0.out
            · exact HZ.out j (by omega)
          by_cases hc : cap - i = 1
          · exact ⟨i + 1, o + i, by omega, by rw [if_pos hc, Nat.sub_sub, Nat.sub_sub], fun h => by omega, hz'⟩
          · exact ⟨i + 1, o + i + 1, by omega, by rw [if_neg hc, Nat.sub_sub, Nat.sub_sub], fun h => by omega, hz'⟩
        case measure => simp [slen]; omega
      · have g : (((l.getD i 0 : Nat) : Int) == 0) = false := beqF (by omega)
        have hle := lead_eq hi HZ.out (Or.inr h0)
        have HLE := Lib.hid hle
        have HNZ := Lib.hid h0
        generalize hx : l.getD i 0 = x at c g h0
        clear hle hx
        have g2 : (x == 0) = false := by simpa using h0
        go_wp2_with fail
        have ht0 : trail l ≤ l.length := by unfold trail; have := lead_le l.reverse; simpa using this
        go_loop [1, 2] (fun v u => ∃ t : Nat, i + t < l.length ∧ v = .slice (some ⟨b, o + i, none⟩) (l.length - i - t) (cap - i) ∧ u = .int .i64 (e + (t : Int)) ∧ ∀ j, j < t → l.reverse.getD j 0 = 0) (fun v _ => slen v)
        case atStart => exact ⟨0, by omega, by simp, by simp, fun j h => by omega⟩
        case round =>
          obtain ⟨t, hit, rfl, rfl, hzt⟩ := hrel
          have HT := Lib.hid hzt
          clear hzt
          have c2 := CELL.out _ (l.length - 1 - t) B0.out (by omega)
          have hrv := rev_getD l t (by omega)
          by_cases hy : l.reverse.getD t 0 = 0
          · have hti : i + (t + 1) < l.length := by
              rcases Nat.lt_or_ge (i + (t + 1)) l.length with h | h
              · exact h
              · exfalso
                rw [show l.length - 1 - t = i by omega] at hrv
                exact HNZ.out (by rw [← hrv]; exact hy)
            rw [← hrv, hy] at c2
            have HY := Lib.hid hy
            rw [show o + (l.length - 1 - t) = o + i + (l.length - i - t - 1) by omega] at c2
            generalize hn : l.length - i - t = n at *
            have hn1 : 1 ≤ n := by omega
            clear hy hrv
            have HN2 := Lib.hid hn
            go_wp2_with fail
            go_round
            case rel =>
              refine ⟨t + 1, hti, by rw [show l.length - i - (t + 1) = n - 1 by have := HN2.out; omega], by rw [Int.add_assoc]; rfl, fun j hj => ?_⟩
              by_cases hjt : j = t
              · rw [hjt]; exact HY.out
              · exact HT.out j (by omega)
            case measure => simp [slen]; omega
          · rw [← hrv] at c2
            have HTR := Lib.hid (lead_eq (l := l.reverse) (i := t) (by simp; omega) HT.out (Or.inr hy))
            rw [show o + (l.length - 1 - t) = o + i + (l.length - i - t - 1) by omega] at c2
            generalize hyx : l.reverse.getD t 0 = y at c2 hy
            have g3 : ((y : Int) == 0) = false := beqF (by omega)
            have g4 : (y == 0) = false := by simpa using hy
            generalize hn : l.length - i - t = n at *
            have hn1 : 1 ≤ n := by omega
            clear hyx hrv
            have HN2 := Lib.hid hn
            have hlz : ((l.drop i).take n).length = n := by simp; omega
            have hys : HasI cs (o + i) ((l.drop i).take n) := fun j hj => by
              rw [hlz] at hj
              have := HL.out (i + j) (by omega)
              rw [Nat.add_assoc, this]
              simp [List.getD, List.getElem?_take, hj, List.getElem?_drop]
            have hW1 : Kept (fun _ => False) W (W.alloc (.cells #[] 3)) := (Kept.refl _ _).alloc _
            have hx1 : NsAt (W.alloc (.cells #[] 3)) (.slice (some ⟨W.heap.size, 0, none⟩) 0 0) [] (some W.heap.size) := ⟨0, 0, #[], rfl, Nat.le_refl _, Nat.le_refl _, heap_alloc_new _ _, fun j hj => by simp at hj⟩
            have hy1 : NsAt (W.alloc (.cells #[] 3)) (.slice (some ⟨b, o + i, none⟩) n (cap - i)) ((l.drop i).take n) (some b) := ⟨o + i, cap - i, cs, by rw [hlz], by rw [hlz]; omega, by omega, hW1.at B0.out (fun f => f), hys⟩
            obtain ⟨r, w2, b', hrun, hr, hk, hown⟩ := ns_append hx1 hy1 (by rw [hlz]; simp; omega)
            rw [List.nil_append] at hr
            have hWs : w.heap.size < W.heap.size := heap_lt HN.out
            have hq2 : w2.heap[w.heap.size]? = some (.cells #[.bool false, .slice none 0 0, .int .i64 0] 30 (0, 0)) := hk.at (hW1.at HN.out (fun f => f)) (fun h => by injection h with h; omega)
            have hK2 : Kept (fun _ => False) w w2 := (K0.out.same hW1).trans hk (fun _ _ f => f) (fun j hj h => by injection h with h; omega)
            cases b' with
            | none => exfalso; have := congrArg List.length hr.2; rw [hlz] at this; simp at this; omega
            | some k =>
              have hkw : k ≠ w.heap.size := by
                rcases hown with h | ⟨j, h, hj⟩
                · injection h with h; omega
                · injection h with h; have := hW1.size; omega
              obtain ⟨o2, cap2, cs2, rfl, g1, g2', g3', g4'⟩ := hr
              have HR : Hid (NsAt w2 (.slice (some ⟨k, o2, none⟩) n cap2) ((l.drop i).take n) (some k)) := ⟨o2, cap2, cs2, by rw [hlz], g1, g2', g3', g4'⟩
              rw [hlz] at hrun
              have HRUN := Lib.hid hrun
              have HK2 := Lib.hid hK2
              obtain ⟨c0, c1, c2'⟩ := cells3 hq2
              have f0 := frozen_of hq2 0
              have f1 := frozen_of hq2 1
              have f2 := frozen_of hq2 2
              have st := store3 hq2 (.bool neg) (.slice (some ⟨k, o2, none⟩) n cap2) (.int .i64 (e + (t : Int)))
              generalize hW3 : (((w2.setCell ⟨w.heap.size, 0, none⟩ (.bool neg)).setCell ⟨w.heap.size, 1, none⟩ (.slice (some ⟨k, o2, none⟩) n cap2)).setCell ⟨w.heap.size, 2, none⟩ (.int .i64 (e + (t : Int)))) = W3 at st
              have S1 := Lib.hid st.1
              have S2 := Lib.hid st.2
              have q1 := fun a p n m c w => build30 a p n m c w
              generalize hys2 : (l.drop i).take n = ys at *
              have HYS := Lib.hid hys2
              clear st hK2 hrun hk hown hx1 hy1 hys g1 g2' g3' g4' hq2 hW1
              go_wp2_with (at_builtin; refine wpList_append28 rfl _ _ rfl (.slice (some ⟨W.heap.size, 0, none⟩) 0 0) (.slice (some ⟨b, o + i, none⟩) n (cap - i)) _ rfl rfl HRUN.out ?_)
              obtain ⟨d0, d1, d2⟩ := cells3 S1.out
              have hdec : decL neg l e = ⟨neg, ys, e + (t : Int)⟩ := by
                unfold decL
                have h1 : lead l = i := HLE.out
                have h2 : trail l = t := HTR.out
                have h3 := HN2.out
                rw [if_neg (by omega), h1, h2, h3, HYS.out]
              refine bodyPost_ret (v := .agg #[.bool neg, .slice (some ⟨k, o2, none⟩) n cap2, .int .i64 (e + (t : Int))]) ?_ rfl ⟨_, rfl, ⟨_, some k, by rw [hdec], by rw [hdec]; exact NsAt.kept HR.out S2.out (fun j hj => by injection hj with hj; omega)⟩, HK2.out.trans S2.out (fun _ _ f => f) (fun j hj h => by omega)⟩
              simp [results, Tryz.f36, loadVar, go_sem, d0, d1, d2]
    · obtain rfl : i = l.length := by omega
      have hdec : decL neg l e = ⟨false, [], 0⟩ := by unfold decL; rw [if_pos (lead_eq hi HZ.out (Or.inl rfl))]
      have HD := Lib.hid hdec
      clear hdec
      have e0 : l.length - l.length = 0 := Nat.sub_self _
      rw [e0]
      have q2 := fun w => build30z w
      obtain ⟨c0, c1, c2⟩ := cells3 HN.out
      have f0 := frozen_of HN.out 0
      have f1 := frozen_of HN.out 1
      have f2 := frozen_of HN.out 2
      have st := store3 HN.out (.bool false) (.slice none 0 0) (.int .i64 0)
      generalize hW3 : (((W.setCell ⟨w.heap.size, 0, none⟩ (.bool false)).setCell ⟨w.heap.size, 1, none⟩ (.slice none 0 0)).setCell ⟨w.heap.size, 2, none⟩ (.int .i64 0)) = W3 at st
      have S1 := Lib.hid st.1
      have S2 := Lib.hid st.2
      clear st
      go_wp2_with fail
      refine wp_loop_rounds 1 ?_
      rw [rounds_succ]
      go_wp2_with fail
      obtain ⟨d0, d1, d2⟩ := cells3 S1.out
      refine bodyPost_ret (v := .agg #[.bool false, .slice none 0 0, .int .i64 0]) ?_ rfl ⟨_, rfl, ⟨.slice none 0 0, none, by rw [HD.out], by rw [HD.out]; exact ⟨rfl, rfl⟩⟩, K0.out.trans S2.out (fun _ _ f => f) (fun j hj h => by omega)⟩
      simp [results, Tryz.f36, loadVar, go_sem, d0, d1, d2]
end Go.Proofs.YtjebnpkebccffaaGreatDoor
namespace Go.Proofs.YtjebnpkebccffaaGreatDoor
open Go.RowKit
set_option maxRecDepth 100000 in
set_option maxHeartbeats 1000000 in
theorem decimal_nil (neg : Bool) (e : Int) (w : World) :
    Calls Tryz.prog 36 #[.bool neg, .slice none 0 0, .int .i64 e] w (DmRes w (decL neg [] e)) := by
  have K0 := Lib.hid ((Kept.refl (fun _ => False) w).alloc (.cells #[.bool false, .slice none 0 0, .int .i64 0] 30))
  have HN := Lib.hid (heap_alloc_new w (.cells #[.bool false, .slice none 0 0, .int .i64 0] 30))
  have q2 := fun w => build30z w
  go_enter Tryz.func36, Tryz.ntmps36
  go_wp2_with fail
  generalize hW : w.alloc (.cells #[.bool false, .slice none 0 0, .int .i64 0] 30) = W at *
  clear hW
  obtain ⟨c0, c1, c2⟩ := cells3 HN.out
  have f0 := frozen_of HN.out 0
  have f1 := frozen_of HN.out 1
  have f2 := frozen_of HN.out 2
  have st := store3 HN.out (.bool false) (.slice none 0 0) (.int .i64 0)
  generalize hW3 : (((W.setCell ⟨w.heap.size, 0, none⟩ (.bool false)).setCell ⟨w.heap.size, 1, none⟩ (.slice none 0 0)).setCell ⟨w.heap.size, 2, none⟩ (.int .i64 0)) = W3 at st
  have S1 := Lib.hid st.1
  have S2 := Lib.hid st.2
  clear st
  refine wp_loop_rounds 1 ?_
  rw [rounds_succ]
  go_wp2_with fail
  refine wp_loop_rounds 1 ?_
  rw [rounds_succ]
  go_wp2_with fail
  obtain ⟨d0, d1, d2⟩ := cells3 S1.out
  refine bodyPost_ret (v := .agg #[.bool false, .slice none 0 0, .int .i64 0]) ?_ rfl ⟨_, rfl, ⟨.slice none 0 0, none, rfl, ⟨rfl, rfl⟩⟩, K0.out.trans S2.out (fun _ _ f => f) (fun j hj h => by omega)⟩
  simp [results, Tryz.f36, loadVar, go_sem, d0, d1, d2]
theorem decimal_any (neg : Bool) (v : Value) (b : Option Nat) (l : List Nat) (e : Int) (w : World) (h : NsAt w v l b) (hlen : l.length ≤ 100000) (he : -1000000 ≤ e ∧ e ≤ 1000000) :
    Calls Tryz.prog 36 #[.bool neg, v, .int .i64 e] w (DmRes w (decL neg l e)) := by
  cases b with
  | none => obtain ⟨rfl, rfl⟩ := h; exact decimal_nil neg e w
  | some k =>
    obtain ⟨o, cap, cs, rfl, h1, h2, h3, h4⟩ := h
    exact decimal_at neg k o cap cs l e w h1 h2 h3 h4 hlen he
structure DmB (d : Dm) (L : Nat) (K : Int) : Prop where
  dig : ∀ x ∈ d.ds, x ≤ 9
  len : d.ds.length ≤ L
  lo : -K ≤ d.e
  hi : d.e ≤ K
theorem decL_b {neg : Bool} {l : List Nat} {e : Int} {L : Nat} {K : Int} (h1 : ∀ x ∈ l, x ≤ 9) (h2 : l.length ≤ L) (h3 : -K ≤ e) (h4 : e ≤ K) : DmB (decL neg l e) L (K + L) := by
  unfold decL
  have hK : 0 ≤ K := by omega
  split
  · exact ⟨fun x h => by simp at h, by simp, by simp; omega, by simp; omega⟩
  · have ht : trail l ≤ l.length := by unfold trail; have := lead_le l.reverse; simpa using this
    exact ⟨fun x h => h1 x (List.mem_of_mem_drop (List.mem_of_mem_take h)), by simp; omega, by simp; omega, by simp; omega⟩
theorem DmAt.shape {w : World} {v : Value} {d : Dm} (h : DmAt w v d) : ∃ p n c b, v = .agg #[.bool d.neg, .slice p n c, .int .i64 d.e] ∧ NsAt w (.slice p n c) d.ds b := by
  obtain ⟨s, b, rfl, hs⟩ := h
  cases b with
  | none => obtain ⟨rfl, h⟩ := hs; exact ⟨none, 0, 0, none, rfl, rfl, h⟩
  | some k =>
    obtain ⟨o, cap, cs, rfl, h⟩ := hs
    exact ⟨_, _, _, some k, rfl, o, cap, cs, rfl, h⟩
theorem NsAt.ne {w : World} {v : Value} {l : List Nat} {b : Option Nat} {q : Nat} {cs : Array Value} {T : TypeId} {fz : Nat × Nat} (h : NsAt w v l b) (hq : w.heap[q]? = some (.cells cs T fz)) (hT : T ≠ 3) : ∀ k, b = some k → ¬ (k = q) := by
  intro k hk e
  subst hk e
  obtain ⟨o, cap, cs', _, _, _, h4, _⟩ := h
  rw [hq] at h4
  injection h4 with h4
  injection h4 with _ h4 _
  exact hT h4
def dgs (u : Nat) : List Nat := if h : u = 0 then [] else dgs (u / 10) ++ [u % 10]
termination_by u
decreasing_by omega
theorem dgs_zero : dgs 0 = [] := by rw [dgs]; simp
theorem dgs_pos {u : Nat} (h : u ≠ 0) : dgs u = dgs (u / 10) ++ [u % 10] := by rw [dgs]; rw [dif_neg h]
theorem dgs_le : ∀ (k u : Nat), u < 10 ^ k → (dgs u).length ≤ k ∧ ∀ x ∈ dgs u, x ≤ 9 := by
  intro k
  induction k with
  | zero =>
    intro u h
    have hu : u = 0 := by simpa using h
    subst hu
    rw [dgs_zero]
    simp
  | succ k ih =>
    intro u h
    by_cases hu : u = 0
    · subst hu; simp [dgs_zero]
    · rw [dgs_pos hu]
      obtain ⟨h1, h2⟩ := ih (u / 10) (by rw [Nat.div_lt_iff_lt_mul (by omega), ← Nat.pow_succ]; exact h)
      refine ⟨by simp; exact h1, fun x hx => ?_⟩
      rcases List.mem_append.1 hx with h | h
      · exact h2 x h
      · simp at h; omega
theorem ns_one (w : World) (a : Nat) : NsAt (w.alloc (.cells #[.int .i64 ((a : Nat) : Int)] 3)) (.slice (some ⟨w.heap.size, 0, none⟩) 1 1) [a] (some w.heap.size) :=
  ⟨0, 1, _, rfl, Nat.le_refl _, by simp, heap_alloc_new _ _, fun i hi => by
    have : i = 0 := by simp at hi; omega
    subst this
    rfl⟩
def uOf : Value → Nat
  | .int _ n => n.toNat
  | _ => 0
set_option maxRecDepth 100000 in
set_option maxHeartbeats 2000000 in
theorem DecimalOf_any (n exp : Int) (w : World) (hn : -9223372036854775808 ≤ n ∧ n ≤ 9223372036854775807) (he : -1000000 ≤ exp ∧ exp ≤ 1000000) :
    Calls Tryz.prog 14 #[.int .i64 n, .int .i64 exp] w (DmRes w (decL (decide (n < 0)) (dgs n.natAbs) exp)) := by
  have K0 := Lib.hid ((Kept.refl (fun _ => False) w).alloc (.cells #[.bool false, .slice none 0 0, .int .i64 0] 30))
  have HN := Lib.hid (heap_alloc_new w (.cells #[.bool false, .slice none 0 0, .int .i64 0] 30))
  have u0 : n.natAbs < 10 ^ 20 := by omega
  have hu : 0 ≤ n → IntKind.u64.wrap n = (n.natAbs : Int) := fun h => by rw [IntKind.wrap_u64]; omega
  have hu2 : n < 0 → IntKind.u64.wrap (-(IntKind.u64.wrap n)) = (n.natAbs : Int) := fun h => by rw [IntKind.wrap_u64, IntKind.wrap_u64]; omega
  generalize hm : n.natAbs = m at *
  generalize hDD : decL (decide (n < 0)) (dgs m) exp = D
  rcases Int.lt_or_le n 0 with hneg | hpos
  all_goals
    first | have hu3 := hu2 hneg | have hu3 := hu hpos
    first | have hbn : decide (n < 0) = true := decT hneg | have hbn : decide (n < 0) = false := decF (by omega)
    rw [hbn] at hDD
    have HDD := Lib.hid hDD
    clear hu hu2 hDD
    go_enter Tryz.func14, Tryz.ntmps14
    go_wp2_with fail
    generalize hW : w.alloc (.cells #[.bool false, .slice none 0 0, .int .i64 0] 30) = W at *
    clear hW
    go_loopw [5, 6] (fun v5 v6 wr => ∃ (u : Nat) (l : List Nat) (b : Option Nat), v5 = .int .u64 (u : Int) ∧ u ≤ m ∧ Hid (NsAt wr v6 l b) ∧ Hid (dgs m = dgs u ++ l) ∧ Hid (u < 10 ^ (20 - l.length) ∧ l.length ≤ 20) ∧ Hid (Kept (fun _ => False) W wr)) (fun v5 _ _ => uOf v5)
    case atStart => exact ⟨m, [], none, rfl, Nat.le_refl _, Lib.hid ⟨rfl, rfl⟩, Lib.hid (by simp), Lib.hid ⟨u0, by simp⟩, Lib.hid (Kept.refl _ _)⟩
    case round =>
      obtain ⟨u, l, b, rfl, hum, HL, HD, HB, HK⟩ := hrel
      by_cases hu0 : u = 0
      · subst hu0
        have hd := HD.out
        rw [dgs_zero, List.nil_append] at hd
        have HD2 := Lib.hid hd
        clear hd
        go_wp2_with fail
        have hb9 := HB.out.2
        have hkw : Kept (fun _ => False) w wr := K0.out.same HK.out
        have hbx := HK.out.at HN.out (fun f => f)
        refine (decimal_any _ _ b l exp wr HL.out (by omega) he).mono ?_
        rintro e w2 ⟨v, rfl, hv, hk⟩
        obtain ⟨p, n', c', b', rfl, hs⟩ := hv.shape
        have hb2 := hk.at hbx (fun f => f)
        obtain ⟨c0, c1, c2⟩ := cells3 hb2
        have f0 := frozen_of hb2 0
        have f1 := frozen_of hb2 1
        have f2 := frozen_of hb2 2
        have HNE := Lib.hid (hs.ne hb2 (by decide))
        rw [← HD2.out, HDD.out] at hs ⊢
        have st := store3 hb2 (.bool D.neg) (.slice p n' c') (.int .i64 D.e)
        generalize hW3 : (((w2.setCell ⟨w.heap.size, 0, none⟩ (.bool D.neg)).setCell ⟨w.heap.size, 1, none⟩ (.slice p n' c')).setCell ⟨w.heap.size, 2, none⟩ (.int .i64 D.e)) = W3 at st
        have S1 := Lib.hid st.1
        have S2 := Lib.hid st.2
        have HS := Lib.hid hs
        have HKW := Lib.hid (hkw.same hk)
        clear st hs hkw hk hb2 hbx hv
        go_wp2_with fail
        obtain ⟨d0, d1, d2⟩ := cells3 S1.out
        refine bodyPost_ret (v := .agg #[.bool D.neg, .slice p n' c', .int .i64 D.e]) ?_ rfl ⟨_, rfl, ⟨_, b', rfl, HS.out.kept S2.out HNE.out⟩, HKW.out.trans S2.out (fun _ _ f => f) (fun j hj h => by omega)⟩
        simp [results, Tryz.f14, loadVar, go_sem, d0, d1, d2]
      · have hone := ns_one wr (u % 10)
        have e1 : ((u % 10 : Nat) : Int) = (u : Int) % 10 := by omega
        rw [e1] at hone
        have hk1 : Kept (fun _ => False) wr (wr.alloc (.cells #[.int .i64 ((u : Int) % 10)] 3)) := (Kept.refl _ _).alloc _
        obtain ⟨r, w2, b', hrun, hr, hk, hown⟩ := ns_append hone (HL.out.old hk1) (by have := HB.out.2; simp; omega)
        have hd := HD.out
        rw [dgs_pos hu0, List.append_assoc] at hd
        have HD2 := Lib.hid hd
        have HR := Lib.hid hr
        have HRUN := Lib.hid hrun
        have hl20 : l.length < 20 := by
          rcases Nat.lt_or_ge l.length 20 with h | h
          · exact h
          · have h1 := HB.out.1
            rw [show 20 - l.length = 0 by omega] at h1
            simp at h1
            omega
        have hb2 : u / 10 < 10 ^ (20 - (l.length + 1)) := by
          rw [Nat.div_lt_iff_lt_mul (by omega), ← Nat.pow_succ, show (20 - (l.length + 1)).succ = 20 - l.length by omega]
          exact HB.out.1
        have HB2 := Lib.hid hb2
        have hkk : Kept (fun _ => False) W w2 := (HK.out.same hk1).trans hk (fun _ _ f => f) (fun j hj h => by injection h with h; have := HK.out.size; omega)
        have HKK := Lib.hid hkk
        have g1 : decide (0 < (u : Int)) = true := decT (by omega)
        have hwq : IntKind.u64.wrap ((u : Int) / 10) = (u : Int) / 10 := by rw [IntKind.wrap_u64]; omega
        have hcv : ∀ w : World, (convert 79 3 (.int .u64 ((u : Int) % 10))).run Tryz.prog w = .ok (.int .i64 ((u : Int) % 10)) w := fun w => by
          have hw : IntKind.i64.wrap ((u : Int) % 10) = (u : Int) % 10 := by rw [IntKind.wrap_i64]; omega
          have : (convert 79 3 (.int .u64 ((u : Int) % 10))).run Tryz.prog w = .ok (.int .i64 (IntKind.i64.wrap ((u : Int) % 10))) w := by kernel_rfl
          rw [this, hw]
        clear hone hk1 hrun hr hk hown hd hb2 hkk e1
        go_wp2_with (at_builtin; refine wpList_append28 rfl _ _ rfl (.slice (some ⟨wr.heap.size, 0, none⟩) 1 1) u6 _ rfl rfl HRUN.out ?_)
        go_roundw
        case rel => exact ⟨u / 10, u % 10 :: l, b', by rw [show ((u / 10 : Nat) : Int) = (u : Int) / 10 by omega], by omega, HR, Lib.hid HD2.out, Lib.hid ⟨by simpa using HB2.out, by simp; omega⟩, HKK⟩
        case measure => simp [uOf]; omega
end Go.Proofs.YtjebnpkebccffaaGreatDoor
namespace Go.Proofs.YtjebnpkebccffaaGreatDoor
open Go.RowKit
theorem DmAt.shape2 {w : World} {v : Value} {d : Dm} (h : DmAt w v d) : ∃ p c b, v = .agg #[.bool d.neg, .slice p d.ds.length c, .int .i64 d.e] ∧ NsAt w (.slice p d.ds.length c) d.ds b := by
  obtain ⟨s, b, rfl, hs⟩ := h
  cases b with
  | none => obtain ⟨rfl, h⟩ := hs; exact ⟨none, 0, none, by rw [h]; rfl, by rw [h]; rfl, h⟩
  | some k =>
    obtain ⟨o, cap, cs, rfl, h⟩ := hs
    exact ⟨_, _, some k, rfl, o, cap, cs, rfl, h⟩
def sgnD (d : Dm) : Int := if d.ds = [] then 0 else if d.neg then -1 else 1
set_option maxRecDepth 100000 in
set_option maxHeartbeats 1000000 in
theorem DecimalSign_any (v : Value) (d : Dm) (w : World) (h : DmAt w v d) : Calls Tryz.prog 19 #[v] w fun e w' => e = .returned (.int .i64 (sgnD d)) ∧ Kept (fun _ => False) w w' := by
  obtain ⟨p, c, b, rfl, hs⟩ := h.shape2
  have K0 := Lib.hid ((Kept.refl (fun _ => False) w).alloc (.cells #[.bool d.neg, .slice p d.ds.length c, .int .i64 d.e] 30))
  have hb := heap_alloc_new w (.cells #[.bool d.neg, .slice p d.ds.length c, .int .i64 d.e] 30)
  obtain ⟨c0, c1, c2⟩ := cells3 hb
  clear h hs hb
  by_cases h0 : d.ds = []
  · have hsg : sgnD d = 0 := if_pos h0
    have hl : d.ds.length = 0 := by rw [h0]; rfl
    rw [hsg]
    rw [hl] at c0 c1 c2 K0 ⊢
    go_enter Tryz.func19, Tryz.ntmps19
    go_wp2_with fail
    go_ret
    exact ⟨rfl, K0.out⟩
  · have hl : ((d.ds.length : Int) == 0) = false := beqF (by
      intro h
      exact h0 (List.eq_nil_of_length_eq_zero (by omega)))
    generalize hn : d.ds.length = n at *
    cases hneg : d.neg with
    | true =>
      have hsg : sgnD d = -1 := by unfold sgnD; rw [if_neg h0, hneg]; rfl
      rw [hsg]
      rw [hneg] at c0 c1 c2 K0
      clear h0 hn
      go_enter Tryz.func19, Tryz.ntmps19
      go_wp2_with fail
      go_ret
      exact ⟨rfl, K0.out⟩
    | false =>
      have hsg : sgnD d = 1 := by unfold sgnD; rw [if_neg h0, hneg]; rfl
      rw [hsg]
      rw [hneg] at c0 c1 c2 K0
      clear h0 hn
      go_enter Tryz.func19, Tryz.ntmps19
      go_wp2_with fail
      go_ret
      exact ⟨rfl, K0.out⟩
def zs (n : Nat) : List Nat := List.replicate n 0
def wideL (d : Dm) (exp : Int) : List Nat := if d.ds = [] then [] else d.ds ++ zs (d.e - exp).toNat
def NsRes (w : World) (l : List Nat) (e : Ending) (w' : World) : Prop := ∃ v b, e = .returned v ∧ NsAt w' v l b ∧ Kept (fun _ => False) w w'
theorem slice_shape {w : World} {v : Value} {l : List Nat} {b : Option Nat} (h : NsAt w v l b) : ∃ p c, v = .slice p l.length c := by
  cases b with
  | none => obtain ⟨rfl, rfl⟩ := h; exact ⟨none, 0, rfl⟩
  | some k => obtain ⟨o, cap, cs, rfl, _⟩ := h; exact ⟨_, _, rfl⟩
theorem ns_zero (w : World) : NsAt (w.alloc (.cells #[] 3)) (.slice (some ⟨w.heap.size, 0, none⟩) 0 0) [] (some w.heap.size) :=
  ⟨0, 0, #[], rfl, Nat.le_refl _, Nat.le_refl _, heap_alloc_new _ _, fun j hj => by simp at hj⟩
set_option maxRecDepth 100000 in
set_option maxHeartbeats 2000000 in
theorem wide_any (v : Value) (d : Dm) (exp : Int) (w : World) (h : DmAt w v d) (hlen : d.ds.length ≤ 10000) (he : -10000 ≤ exp ∧ exp ≤ 10000) (hd : -10000 ≤ d.e ∧ d.e ≤ 10000) : Calls Tryz.prog 40 #[v, .int .i64 exp] w (NsRes w (wideL d exp)) := by
  obtain ⟨p, c, b, rfl, hs⟩ := h.shape2
  have k0 : Kept (fun _ => False) w (w.alloc (.cells #[.bool d.neg, .slice p d.ds.length c, .int .i64 d.e] 30)) := (Kept.refl _ _).alloc _
  have hb := heap_alloc_new w (.cells #[.bool d.neg, .slice p d.ds.length c, .int .i64 d.e] 30)
  have hs0 := hs.old k0
  generalize hW0 : w.alloc (.cells #[.bool d.neg, .slice p d.ds.length c, .int .i64 d.e] 30) = W0 at *
  have k1 : Kept (fun _ => False) W0 (W0.alloc (.cells #[] 3)) := (Kept.refl _ _).alloc _
  obtain ⟨r, w2, b', hrun, hr, hk, hown⟩ := ns_append (ns_zero W0) (hs0.old k1) (by simp; omega)
  rw [List.nil_append] at hr
  have kk : Kept (fun _ => False) W0 w2 := k1.trans hk (fun _ _ f => f) (fun j hj h => by injection h with h; omega)
  have hb1 := k1.at hb (fun f => f)
  have hb2 := kk.at hb (fun f => f)
  have hfb : ∀ k, b' = some k → W0.heap.size ≤ k := by
    intro k hk'
    rcases hown with h | ⟨j, h, hj⟩
    · rw [hk'] at h; injection h with h; omega
    · rw [hk'] at h; injection h with h; have := k1.size; omega
  obtain ⟨c0, c1, c2⟩ := cells3 hb1
  obtain ⟨e0, e1, e2⟩ := cells3 hb2
  have HR := Lib.hid hr
  have HRUN := Lib.hid hrun
  have K2 := Lib.hid kk
  have K0 := Lib.hid k0
  have HFB := Lib.hid hfb
  have S0 := Lib.hid k0.size
  have HLEN := Lib.hid hlen
  have HHD := Lib.hid hd
  have HHE := Lib.hid he
  clear h hs hs0 k1 hk hown hr hrun kk hb hb1 hb2 k0 hfb
  go_enter Tryz.func40, Tryz.ntmps40
  go_wp2_with (at_builtin; refine wpList_append28 rfl _ _ rfl (.slice (some ⟨W0.heap.size, 0, none⟩) 0 0) (.slice p d.ds.length c) _ rfl rfl HRUN.out ?_)
  go_loopw [5, 6] (fun v5 v6 wr => ∃ (t : Nat) (b : Option Nat), (v6 = .int .i64 (d.e - (t : Int))) ∧ (t : Int) ≤ ((d.e - exp).toNat : Int) ∧ Hid (d.ds = [] → t = 0) ∧ Hid (NsAt wr v5 (d.ds ++ zs t) b) ∧ Hid (∀ k, b = some k → W0.heap.size ≤ k) ∧ Hid (Kept (fun _ => False) W0 wr)) (fun _ v6 _ => (intOf v6 - exp).toNat)
  case atStart => exact ⟨0, b', by simp, by omega, Lib.hid (fun _ => rfl), Lib.hid (by simpa [zs] using HR.out), HFB, K2⟩
  case round =>
    obtain ⟨t, b2, rfl, ht, HT0, HL, HF, HK⟩ := hrel
    obtain ⟨p2, c2', rfl⟩ := slice_shape HL.out
    by_cases h0 : d.ds = []
    · have hwd : wideL d exp = [] := if_pos h0
      have ht0 := HT0.out h0
      subst ht0
      have hl := HL.out
      have hnil : d.ds ++ zs 0 = [] := by rw [h0]; rfl
      rw [hnil] at hl ⊢
      have HL2 := Lib.hid hl
      have HWD := Lib.hid hwd
      simp only [List.length_nil] at HL2 ⊢
      clear hl hnil h0 hwd HL
      by_cases hlt : exp < d.e - ((0 : Nat) : Int)
      all_goals
        go_wp2_with fail
        go_ret
        exact ⟨_, b2, rfl, by rw [HWD.out]; exact HL2.out, K0.out.same HK.out⟩
    · have hn : (d.ds ++ zs t).length = d.ds.length + t := by simp [zs]
      have hl0 := HL.out
      rw [hn] at hl0 ⊢
      have HL := Lib.hid hl0
      clear hl0
      have hpos : 0 < d.ds.length := by
        rcases Nat.eq_zero_or_pos d.ds.length with h | h
        · exact absurd (List.eq_nil_of_length_eq_zero h) h0
        · exact h
      by_cases hlt : exp < d.e - (t : Int)
      · have hone := ns_one wr 0
        have hk1 : Kept (fun _ => False) wr (wr.alloc (.cells #[.int .i64 ((0 : Nat) : Int)] 3)) := (Kept.refl _ _).alloc _
        obtain ⟨r2, w3, b3, hrun, hr, hk, hown⟩ := ns_append (HL.out.old hk1) hone (by have := HLEN.out; have := HHD.out; have := HHE.out; simp [zs]; omega)
        have hl3 : (d.ds ++ zs t) ++ [0] = d.ds ++ zs (t + 1) := by
          rw [List.append_assoc]
          congr 1
          simp [zs, List.replicate_succ']
        rw [hl3] at hr
        have HR3 := Lib.hid hr
        have HRUN3 := Lib.hid hrun
        have hsz := HK.out.size
        have HK3 : Hid (Kept (fun _ => False) W0 w3) := (HK.out.same hk1).trans hk (fun _ _ f => f) (fun j hj h => by have := HF.out j h; omega)
        have HF3 : Hid (∀ k, b3 = some k → W0.heap.size ≤ k) := by
          intro k hk'
          rcases hown with h | ⟨j, h, hj⟩
          · rw [hk'] at h; exact HF.out k h.symm
          · rw [hk'] at h; injection h with h; have := hk1.size; omega
        have HN0 := Lib.hid h0
        clear hn
        clear hone hk1 hrun hr hk hown hl3 h0 HT0
        go_wp2_with (at_builtin; refine wpList_append28 rfl _ _ rfl (.slice p2 (d.ds.length + t) c2') (.slice (some ⟨wr.heap.size, 0, none⟩) 1 1) _ rfl rfl HRUN3.out ?_)
        go_roundw
        case rel => exact ⟨t + 1, b3, by rw [show d.e - ((t + 1 : Nat) : Int) = d.e - (t : Int) - 1 by omega], by omega, Lib.hid (fun h => absurd h HN0.out), HR3, HF3, HK3⟩
        case measure => simp [intOf]; omega
      · have hwd : wideL d exp = d.ds ++ zs t := by
          unfold wideL
          rw [if_neg h0, show (d.e - exp).toNat = t by omega]
        have HWD := Lib.hid hwd
        have hl := HL.out
        clear hn
        have HL2 := Lib.hid hl
        clear hwd HL h0 hl
        go_wp2_with fail
        go_ret
        exact ⟨_, b2, rfl, by rw [HWD.out]; exact HL2.out, K0.out.same HK.out⟩
end Go.Proofs.YtjebnpkebccffaaGreatDoor
namespace Go.Proofs.YtjebnpkebccffaaGreatDoor
open Go.RowKit
def dgOf (c : Nat) : Nat := if isDg c = true then c - 48 else 0
def rd (s : ByteArray) : List Nat := s.data.toList.map fun c => dgOf c.toNat
end Go.Proofs.YtjebnpkebccffaaGreatDoor
