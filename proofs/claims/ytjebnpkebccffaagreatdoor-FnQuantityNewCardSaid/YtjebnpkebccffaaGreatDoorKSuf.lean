import Derived.Test.YtjebnpkebccffaaGreatDoorKMaps
import Derived.Deep.RegionWith
import Derived.BigQuiet
import Derived.WalkSpells
set_option linter.unusedSimpArgs false
set_option linter.unusedVariables false
set_option linter.unusedSectionVars false
namespace Go.Proofs.YtjebnpkebccffaaGreatDoor
open Go.RowKit
theorem cell_kept {w w' : World} {b i : Nat} {v : Value} (hb : w'.heap[b]? = w.heap[b]?) (h : w.cell? ⟨b, i, none⟩ = some v) : w'.cell? ⟨b, i, none⟩ = some v := by
  rw [← h]; simp [World.cell?, hb]
theorem cells_ne_map {κ : Type} [DecidableEq κ] {enc : κ → Value} {w : World} {g r : Nat} {cs : Array Value} {T : TypeId} {fr : Nat × Nat} {l : List (κ × Value)} (h : w.heap[g]? = some (.cells cs T fr)) (h2 : MapIs enc w r l) : g ≠ r := by
  obtain ⟨es, clock, h3, _⟩ := h2
  intro e
  subst e
  rw [h] at h3
  cases h3
theorem lt_of_cell' {w : World} {b i : Nat} {v : Value} (h : w.cell? ⟨b, i, none⟩ = some v) : b < w.heap.size := by
  rcases Nat.lt_or_ge b w.heap.size with h' | h'
  · exact h'
  · have : w.heap[b]? = none := Array.getElem?_eq_none h'
    simp [World.cell?, this] at h
theorem Lst.dlt {w : World} {d o r1 r2 r3 : Nat} {l1 l2 tx} (h : Lst w d o r1 r2 r3 l1 l2 tx) : d < w.heap.size := lt_of_cell' h.c0
theorem Lst.kept {S : Nat → Prop} {w w' : World} {d o r1 r2 r3 : Nat} {l1 l2 tx} (h : Lst w d o r1 r2 r3 l1 l2 tx) (hk : Kept S w w') (h0 : ¬ S d) (h1 : ¬ S r1) (h2 : ¬ S r2) (h3 : ¬ S r3) (h4 : ∀ g cs fr, w.heap[g]? = some (.cells cs 5 fr) → ¬ S g) : Lst w' d o r1 r2 r3 l1 l2 tx := by
  have hd := hk.block d h.dlt h0
  refine ⟨cell_kept hd h.c0, cell_kept hd h.c1, cell_kept hd h.c2, h.m1.kept hk h1, h.m2.kept hk h2, ?_, h.o1, h.o2, h.o3⟩
  obtain ⟨l3, m, R⟩ := h.m3
  exact ⟨l3, m.kept hk h3, R.mono (fun v t hb => hb.kept hk h4)⟩
theorem Lst.same {w w' : World} {d o r1 r2 r3 : Nat} {l1 l2 tx} (h : Lst w d o r1 r2 r3 l1 l2 tx) (hk : Kept (fun _ => False) w w') : Lst w' d o r1 r2 r3 l1 l2 tx :=
  h.kept hk (fun f => f) (fun f => f) (fun f => f) (fun f => f) (fun _ _ _ _ f => f)
theorem Tryz.und146 : Tryz.prog.underlying 146 = some (.map 100 155) := by kernel_rfl
theorem Tryz.und147 : Tryz.prog.underlying 147 = some (.map 155 100) := by kernel_rfl
theorem Tryz.und148 : Tryz.prog.underlying 148 = some (.map 155 57) := by kernel_rfl
theorem keyS100 : KeyLaw' encS 100 := keyS 100 (by kernel_rfl)
theorem bytes_new (w : World) (s : ByteArray) : ∃ cap, (convert 100 57 (.string s)).run Tryz.prog w = .ok (.slice (some ⟨w.heap.size, 0, none⟩) s.size cap) (w.drew.alloc (.cells (bytesRow s cap) 5 ((bytesRow s cap).size, (bytesRow s cap).size + 1))) ∧ BytesAt (w.drew.alloc (.cells (bytesRow s cap) 5 ((bytesRow s cap).size, (bytesRow s cap).size + 1))) (.slice (some ⟨w.heap.size, 0, none⟩) s.size cap) s := by
  refine ⟨_, run_bytes_of_string w 100 57 5 s (by kernel_rfl) Tryz.underlying57 Tryz.underlying5, ⟨_, _, _, _, rfl, heap_alloc_new w.drew _, fun j hj => ?_⟩⟩
  have hj' : j < s.data.size := hj
  unfold bytesRow
  rw [Array.getElem?_append_left (by simpa using hj')]
  rw [Array.getElem?_map, Array.getElem?_eq_getElem hj']
  rfl
theorem run_put {κ : Type} [DecidableEq κ] (enc : κ → Value) (mty kt et : TypeId) (hm : Tryz.prog.underlying mty = some (.map kt et)) (K : KeyLaw' enc kt) (w : World) (r : Nat) (l : List (κ × Value)) (h : MapIs enc w r l) (k : κ) (v : Value) :
    ∃ w', (Instr.mapUpdate mty (.map (some r)) (enc k) v).run Tryz.prog w = .ok () w' ∧ MapIs enc w' r (putM l k v) ∧ Kept (fun i => i = r) w w' ∧ w'.heap.size = w.heap.size := by
  obtain ⟨es, clock, hrun, he⟩ := run_update enc mty kt et hm K w r l h k v
  have hr := map_block h
  refine ⟨_, hrun, ⟨es, clock, ?_, he⟩, ⟨rfl, rfl, rfl, by simp, fun i hi hs => ?_⟩, by simp⟩
  · show (w.heap.setIfInBounds r _)[r]? = _
    simp [hr]
  · show (w.heap.setIfInBounds r _)[i]? = _
    rw [Array.getElem?_setIfInBounds, if_neg (fun e => hs e.symm)]
theorem Lst.put1 {w w' : World} {d o r1 r2 r3 : Nat} {l1 l1' l2 tx} (h : Lst w d o r1 r2 r3 l1 l2 tx) (hk : Kept (fun i => i = r1) w w') (hm : MapIs encS w' r1 l1') : Lst w' d o r1 r2 r3 l1' l2 tx := by
  have o1 := h.o1; have o2 := h.o2; have o3 := h.o3
  have hd := hk.block d h.dlt (by omega)
  obtain ⟨l3, m, R⟩ := h.m3
  exact ⟨cell_kept hd h.c0, cell_kept hd h.c1, cell_kept hd h.c2, hm, h.m2.kept hk (by omega), ⟨l3, m.kept hk (by omega), R.mono (fun v t hb => hb.kept hk (fun g cs fr hg => cells_ne_map hg h.m1))⟩, o1, o2, o3⟩
theorem Lst.put2 {w w' : World} {d o r1 r2 r3 : Nat} {l1 l2 l2' tx} (h : Lst w d o r1 r2 r3 l1 l2 tx) (hk : Kept (fun i => i = r2) w w') (hm : MapIs encP w' r2 l2') : Lst w' d o r1 r2 r3 l1 l2' tx := by
  have o1 := h.o1; have o2 := h.o2; have o3 := h.o3
  have hd := hk.block d h.dlt (by omega)
  obtain ⟨l3, m, R⟩ := h.m3
  exact ⟨cell_kept hd h.c0, cell_kept hd h.c1, cell_kept hd h.c2, h.m1.kept hk (by omega), hm, ⟨l3, m.kept hk (by omega), R.mono (fun v t hb => hb.kept hk (fun g cs fr hg => cells_ne_map hg h.m2))⟩, o1, o2, o3⟩
def AddRes (w : World) (d o r1 r2 r3 : Nat) (l1 : List (ByteArray × Value)) (l2 : List ((Int × Int) × Value)) (tx : List ((Int × Int) × ByteArray)) (s : ByteArray) (p : Int × Int) (e : Ending) (w' : World) : Prop :=
  e = .returned (.tuple #[]) ∧ Lst w' d o r1 r2 r3 (putM l1 s (encP p)) (putM l2 p (.string s)) (putT tx p s) ∧ Kept (fun i => i = r1 ∨ i = r2 ∨ i = r3) w w'
structure AddFacts (w1 : World) (q d o r1 r2 r3 : Nat) (s : ByteArray) (p : Int × Int) (w2 w3 w4 w5 : World) (cap : Nat) : Prop where
  hu1 : (Instr.mapUpdate 146 (.map (some r1)) (.string s) (.agg #[.int .i32 p.1, .int .i32 p.2])).run Tryz.prog w1.drew = .ok () w2
  hu2 : (Instr.mapUpdate 147 (.map (some r2)) (.agg #[.int .i32 p.1, .int .i32 p.2]) (.string s)).run Tryz.prog w2.drew = .ok () w3
  hcv : (convert 100 57 (.string s)).run Tryz.prog w3.drew = .ok (.slice (some ⟨w3.heap.size, 0, none⟩) s.size cap) w4
  hu3 : (Instr.mapUpdate 148 (.map (some r3)) (.agg #[.int .i32 p.1, .int .i32 p.2]) (.slice (some ⟨w3.heap.size, 0, none⟩) s.size cap)).run Tryz.prog w4 = .ok () w5
  c0 : w1.drew.cell? ⟨d, o, none⟩ = some (.map (some r1))
  c0' : w1.cell? ⟨d, o, none⟩ = some (.map (some r1))
  c1' : w1.cell? ⟨d, o + 1, none⟩ = some (.map (some r2))
  c2' : w1.cell? ⟨d, o + 2, none⟩ = some (.map (some r3))
  c1 : w2.drew.cell? ⟨d, o + 1, none⟩ = some (.map (some r2))
  c2 : w3.drew.cell? ⟨d, o + 2, none⟩ = some (.map (some r3))
  c3 : w4.cell? ⟨d, o + 2, none⟩ = some (.map (some r3))
  p10 : w1.drew.cell? ⟨q, 0, none⟩ = some (.int .i32 p.1)
  p11 : w1.drew.cell? ⟨q, 1, none⟩ = some (.int .i32 p.2)
  p20 : w2.drew.cell? ⟨q, 0, none⟩ = some (.int .i32 p.1)
  p21 : w2.drew.cell? ⟨q, 1, none⟩ = some (.int .i32 p.2)
  p30 : w3.drew.cell? ⟨q, 0, none⟩ = some (.int .i32 p.1)
  p31 : w3.drew.cell? ⟨q, 1, none⟩ = some (.int .i32 p.2)
  p40 : w4.cell? ⟨q, 0, none⟩ = some (.int .i32 p.1)
  p41 : w4.cell? ⟨q, 1, none⟩ = some (.int .i32 p.2)
theorem add_facts (w1 : World) (q d o r1 r2 r3 : Nat) (l1 : List (ByteArray × Value)) (l2 : List ((Int × Int) × Value)) (tx : List ((Int × Int) × ByteArray)) (s : ByteArray) (p : Int × Int) (L1 : Lst w1 d o r1 r2 r3 l1 l2 tx) (hbx : w1.heap[q]? = some (.cells #[.int .i32 p.1, .int .i32 p.2] 155 (0, 0))) :
    ∃ w2 w3 w4 w5 cap, AddFacts w1 q d o r1 r2 r3 s p w2 w3 w4 w5 cap ∧ Lst w5 d o r1 r2 r3 (putM l1 s (encP p)) (putM l2 p (.string s)) (putT tx p s) ∧ Kept (fun i => i = r1 ∨ i = r2 ∨ i = r3) w1 w5 := by
  have o1 := L1.o1; have o2 := L1.o2; have o3 := L1.o3
  have L1d : Lst w1.drew d o r1 r2 r3 l1 l2 tx := L1.same ((Kept.refl _ _).drew)
  obtain ⟨w2, hu1, hm2, hk2, hs2⟩ := run_put encS 146 100 155 Tryz.und146 keyS100 w1.drew r1 l1 L1d.m1 s (encP p)
  have L2 := L1d.put1 hk2 hm2
  have L2d : Lst w2.drew d o r1 r2 r3 (putM l1 s (encP p)) l2 tx := L2.same ((Kept.refl _ _).drew)
  obtain ⟨w3, hu2, hm3, hk3, hs3⟩ := run_put encP 147 155 100 Tryz.und147 keyP w2.drew r2 l2 L2d.m2 p (.string s)
  have L3 := L2d.put2 hk3 hm3
  obtain ⟨cap, hcv, hba⟩ := bytes_new w3.drew s
  have K4 : Kept (fun _ => False) w3 (w3.drew.drew.alloc (.cells (bytesRow s cap) 5 ((bytesRow s cap).size, (bytesRow s cap).size + 1))) := (((Kept.refl _ w3).drew).drew).alloc _
  have L4 := L3.same K4
  have e4 : w3.drew.heap.size = w3.heap.size := rfl
  generalize hw4 : w3.drew.drew.alloc (.cells (bytesRow s cap) 5 ((bytesRow s cap).size, (bytesRow s cap).size + 1)) = w4 at *
  obtain ⟨l3, m3, R3⟩ := L4.m3
  obtain ⟨w5, hu3, hm5, hk5, hs5⟩ := run_put encP 148 155 57 Tryz.und148 keyP w4 r3 l3 m3 p (.slice (some ⟨w3.heap.size, 0, none⟩) s.size cap)
  have kb : ∀ v t, BytesAt w4 v t → BytesAt w5 v t := fun v t hb => hb.kept hk5 (fun g cs fr hg => cells_ne_map hg m3)
  have L5 : Lst w5 d o r1 r2 r3 (putM l1 s (encP p)) (putM l2 p (.string s)) (putT tx p s) := by
    have hd := hk5.block d L4.dlt (by omega)
    exact ⟨cell_kept hd L4.c0, cell_kept hd L4.c1, cell_kept hd L4.c2, L4.m1.kept hk5 (by omega), L4.m2.kept hk5 (by omega), ⟨_, hm5, RelM.put (R3.mono kb) p (kb _ _ hba)⟩, o1, o2, o3⟩
  have KF : Kept (fun i => i = r1 ∨ i = r2 ∨ i = r3) w1 w5 := by
    have a1 : Kept (fun i => i = r1) w1 w2 := ((Kept.refl (fun _ => False) w1).drew).trans hk2 (fun _ _ f => f.elim) (fun _ _ h => h)
    have a2 : Kept (fun i => i = r1 ∨ i = r2) w1 w3 := (a1.drew).trans hk3 (fun _ _ h => Or.inl h) (fun _ _ h => Or.inr h)
    have a3 : Kept (fun i => i = r1 ∨ i = r2) w1 w4 := a2.trans K4 (fun _ _ h => h) (fun _ _ f => f.elim)
    exact a3.trans hk5 (fun _ _ h => by rcases h with h | h; exact Or.inl h; exact Or.inr (Or.inl h)) (fun _ _ h => Or.inr (Or.inr h))
  have bx2 : w2.heap[q]? = some (.cells #[.int .i32 p.1, .int .i32 p.2] 155 (0, 0)) := hk2.at hbx (cells_ne_map hbx L1.m1)
  have bx3 : w3.heap[q]? = some (.cells #[.int .i32 p.1, .int .i32 p.2] 155 (0, 0)) := hk3.at bx2 (cells_ne_map bx2 L2.m2)
  have bx4 : w4.heap[q]? = some (.cells #[.int .i32 p.1, .int .i32 p.2] 155 (0, 0)) := K4.at bx3 (fun f => f)
  simp only [encP, encS] at hu1 hu2 hu3
  rw [e4] at hcv
  refine ⟨w2, w3, w4, w5, cap, ⟨hu1, hu2, hcv, hu3, L1.c0, L1.c0, L1.c1, L1.c2, L2.c1, L3.c2, L4.c2, ?_, ?_, ?_, ?_, ?_, ?_, ?_, ?_⟩, L5, KF⟩
  · show w1.cell? _ = _; rw [cell_of hbx]; rfl
  · show w1.cell? _ = _; rw [cell_of hbx]; rfl
  · show w2.cell? _ = _; rw [cell_of bx2]; rfl
  · show w2.cell? _ = _; rw [cell_of bx2]; rfl
  · show w3.cell? _ = _; rw [cell_of bx3]; rfl
  · show w3.cell? _ = _; rw [cell_of bx3]; rfl
  · rw [cell_of bx4]; rfl
  · rw [cell_of bx4]; rfl
set_option maxRecDepth 100000 in
set_option maxHeartbeats 2000000 in
theorem addSuffix_more (d o r1 r2 r3 : Nat) (l1 : List (ByteArray × Value)) (l2 : List ((Int × Int) × Value)) (tx : List ((Int × Int) × ByteArray)) (s : ByteArray) (p : Int × Int) (w : World) (h : Lst w d o r1 r2 r3 l1 l2 tx) :
    Calls Tryz.prog 89 #[.pointer (some ⟨d, o, none⟩), .string s, encP p] w (AddRes w d o r1 r2 r3 l1 l2 tx s p) := by
  have K1 : Kept (fun _ => False) w (w.alloc (.cells #[.int .i32 p.1, .int .i32 p.2] 155)) := (Kept.refl _ _).alloc _
  have L1 := h.same K1
  have hbx : (w.alloc (.cells #[.int .i32 p.1, .int .i32 p.2] 155)).heap[w.heap.size]? = some (.cells #[.int .i32 p.1, .int .i32 p.2] 155 (0, 0)) := heap_alloc_new _ _
  generalize hw1 : w.alloc (.cells #[.int .i32 p.1, .int .i32 p.2] 155) = w1 at *
  obtain ⟨w2, w3, w4, w5, cap, F, L5, K5⟩ := add_facts w1 w.heap.size d o r1 r2 r3 l1 l2 tx s p L1 hbx
  have b1 := fun w => run_eql_map_nil (P := Tryz.prog) w 146 100 155 (some r1) Tryz.und146
  have b2 := fun w => run_eql_map_nil (P := Tryz.prog) w 147 155 100 (some r2) Tryz.und147
  have b3 := fun w => run_eql_map_nil (P := Tryz.prog) w 148 155 57 (some r3) Tryz.und148
  have HF : Hid (AddRes w d o r1 r2 r3 l1 l2 tx s p (.returned (.tuple #[])) w5) := ⟨rfl, L5, K1.trans K5 (fun _ _ f => f.elim) (fun _ _ h => h)⟩
  obtain ⟨hu1, hu2, hcv, hu3, hc0, hc0', hc1', hc2', hc1, hc2, hc3, p10, p11, p20, p21, p30, p31, p40, p41⟩ := F
  clear L1 L5 K5 K1 hbx h
  go_enter Tryz.func89, Tryz.ntmps89
  simp only [encP]
  go_wp2_with fail
  go_region
  go_wp2_with fail
  go_region
  go_wp2_with fail
  go_region
  all_goals
    go_wp2_with fail
    go_end0
    exact HF.out
theorem mk_map (t : TypeId) (w : World) : (Instr.makeMap t none).run Tryz.prog w = .ok (.map (some w.heap.size)) (w.alloc (.map #[] 0)) := by
  simp [Instr.makeMap, Result.andThen]
def FirstRes (w : World) (d o : Nat) (cs : Array Value) (s : ByteArray) (p : Int × Int) (e : Ending) (w' : World) : Prop :=
  ∃ r1 r2 r3, e = .returned (.tuple #[]) ∧ w.heap.size ≤ r1 ∧ Lst w' d o r1 r2 r3 [(s, encP p)] [(p, .string s)] [(p, s)] ∧ Kept (fun i => i = d) w w' ∧ w'.heap[d]? = some (.cells (((cs.setIfInBounds o (.map (some r1))).setIfInBounds (o + 1) (.map (some r2))).setIfInBounds (o + 2) (.map (some r3))) 152 (0, 0))
set_option maxRecDepth 100000 in
set_option maxHeartbeats 2000000 in
theorem addSuffix_first (d o : Nat) (cs : Array Value) (s : ByteArray) (p : Int × Int) (w : World) (h : w.heap[d]? = some (.cells cs 152 (0, 0))) (hs : o + 2 < cs.size) (h0 : cs[o]? = some (.map none)) (h1 : cs[o + 1]? = some (.map none)) (h2 : cs[o + 2]? = some (.map none)) :
    Calls Tryz.prog 89 #[.pointer (some ⟨d, o, none⟩), .string s, encP p] w (FirstRes w d o cs s p) := by
  have hd := heap_lt h
  have KA : Kept (fun _ => False) w (w.alloc (.cells #[.int .i32 p.1, .int .i32 p.2] 155)) := (Kept.refl _ _).alloc _
  have hbA : (w.alloc (.cells #[.int .i32 p.1, .int .i32 p.2] 155)).heap[w.heap.size]? = some (.cells #[.int .i32 p.1, .int .i32 p.2] 155 (0, 0)) := heap_alloc_new _ _
  have sA : (w.alloc (.cells #[.int .i32 p.1, .int .i32 p.2] 155)).heap.size = w.heap.size + 1 := by simp
  generalize hwA : w.alloc (.cells #[.int .i32 p.1, .int .i32 p.2] 155) = wA at *
  have dA := KA.at h (fun f => f)
  -- the three maps
  have KB : Kept (fun _ => False) wA (wA.alloc (.map #[] 0)) := (Kept.refl _ _).alloc _
  have mB : MapIs encS (wA.alloc (.map #[] 0)) wA.heap.size [] := MapIs.new encS wA
  have sB : (wA.alloc (.map #[] 0)).heap.size = w.heap.size + 2 := by simp [sA]
  rw [sA] at mB
  generalize hwB : wA.alloc (.map #[] 0) = wB at *
  have dB := KB.at dA (fun f => f)
  have bB := KB.at hbA (fun f => f)
  have KC : Kept (fun i => i = d) wB (wB.setCell ⟨d, o, none⟩ (.map (some (w.heap.size + 1)))) := (Kept.refl _ _).setCell _ _ (fun _ => rfl)
  have dC := heap_set_same dB o (.map (some (w.heap.size + 1)))
  have sC : (wB.setCell ⟨d, o, none⟩ (.map (some (w.heap.size + 1)))).heap.size = w.heap.size + 2 := by simpa using sB
  generalize hwC : wB.setCell ⟨d, o, none⟩ (.map (some (w.heap.size + 1))) = wC at *
  have bC := KC.at bB (by omega)
  have mC := mB.kept KC (by omega)
  have KD : Kept (fun _ => False) wC (wC.alloc (.map #[] 0)) := (Kept.refl _ _).alloc _
  have mD : MapIs encP (wC.alloc (.map #[] 0)) wC.heap.size [] := MapIs.new encP wC
  have sD : (wC.alloc (.map #[] 0)).heap.size = w.heap.size + 3 := by simp [sC]
  rw [sC] at mD
  generalize hwD : wC.alloc (.map #[] 0) = wD at *
  have dD := KD.at dC (fun f => f)
  have bD := KD.at bC (fun f => f)
  have m1D := mC.kept KD (fun f => f)
  have KE : Kept (fun i => i = d) wD (wD.setCell ⟨d, o + 1, none⟩ (.map (some (w.heap.size + 2)))) := (Kept.refl _ _).setCell _ _ (fun _ => rfl)
  have dE := heap_set_same dD (o + 1) (.map (some (w.heap.size + 2)))
  have sE : (wD.setCell ⟨d, o + 1, none⟩ (.map (some (w.heap.size + 2)))).heap.size = w.heap.size + 3 := by simpa using sD
  generalize hwE : wD.setCell ⟨d, o + 1, none⟩ (.map (some (w.heap.size + 2))) = wE at *
  have bE := KE.at bD (by omega)
  have m1E := m1D.kept KE (by omega)
  have m2E := mD.kept KE (by omega)
  have KG : Kept (fun _ => False) wE (wE.alloc (.map #[] 0)) := (Kept.refl _ _).alloc _
  have mG : MapIs encP (wE.alloc (.map #[] 0)) wE.heap.size [] := MapIs.new encP wE
  have sG : (wE.alloc (.map #[] 0)).heap.size = w.heap.size + 4 := by simp [sE]
  rw [sE] at mG
  generalize hwG : wE.alloc (.map #[] 0) = wG at *
  have dG := KG.at dE (fun f => f)
  have bG := KG.at bE (fun f => f)
  have m1G := m1E.kept KG (fun f => f)
  have m2G := m2E.kept KG (fun f => f)
  have KH : Kept (fun i => i = d) wG (wG.setCell ⟨d, o + 2, none⟩ (.map (some (w.heap.size + 3)))) := (Kept.refl _ _).setCell _ _ (fun _ => rfl)
  have dH := heap_set_same dG (o + 2) (.map (some (w.heap.size + 3)))
  generalize hwH : wG.setCell ⟨d, o + 2, none⟩ (.map (some (w.heap.size + 3))) = wH at *
  have bH := KH.at bG (by omega)
  have m1H := m1G.kept KH (by omega)
  have m2H := m2G.kept KH (by omega)
  have m3H := mG.kept KH (by omega)
  have KAll : Kept (fun i => i = d) w wH := by
    have a1 : Kept (fun i => i = d) w wC := (KA.trans KB (fun _ _ f => f.elim) (fun _ _ f => f.elim) : Kept (fun _ => False) w wB).trans KC (fun _ _ f => f.elim) (fun _ _ h => h)
    have a2 : Kept (fun i => i = d) w wE := (a1.trans KD (fun _ _ h => h) (fun _ _ f => f.elim) : Kept (fun i => i = d) w wD).same KE
    exact (a2.trans KG (fun _ _ h => h) (fun _ _ f => f.elim) : Kept (fun i => i = d) w wG).same KH
  have LH : Lst wH d o (w.heap.size + 1) (w.heap.size + 2) (w.heap.size + 3) [] [] [] := by
    refine ⟨?_, ?_, ?_, m1H, m2H, ⟨[], m3H, trivial⟩, by omega, by omega, by omega⟩
    · rw [cell_of dH]; simp [Array.getElem?_setIfInBounds]; omega
    · rw [cell_of dH]; simp [Array.getElem?_setIfInBounds]; omega
    · rw [cell_of dH]; simp [Array.getElem?_setIfInBounds]; omega
  obtain ⟨w2, w3, w4, w5, cap, F, L5, K5⟩ := add_facts wH w.heap.size d o (w.heap.size + 1) (w.heap.size + 2) (w.heap.size + 3) [] [] [] s p LH bH
  have d5 := K5.at dH (by omega)
  have HF : Hid (FirstRes w d o cs s p (.returned (.tuple #[])) w5) := ⟨_, _, _, rfl, by omega, L5, KAll.trans K5 (fun _ _ h => h) (fun _ hi h => by omega), d5⟩
  obtain ⟨hu1, hu2, hcv, hu3, hc0, hc0', hc1', hc2', hc1, hc2, hc3, p10, p11, p20, p21, p30, p31, p40, p41⟩ := F
  have cA : wA.cell? ⟨d, o, none⟩ = some (.map none) := by rw [cell_of dA]; exact h0
  have cB : wB.cell? ⟨d, o, none⟩ = some (.map none) := by rw [cell_of dB]; exact h0
  have fB := frozen_of dB o
  have cC : wC.cell? ⟨d, o + 1, none⟩ = some (.map none) := by rw [cell_of dC, Array.getElem?_setIfInBounds, if_neg (by omega)]; exact h1
  have cD : wD.cell? ⟨d, o + 1, none⟩ = some (.map none) := by rw [cell_of dD, Array.getElem?_setIfInBounds, if_neg (by omega)]; exact h1
  have fD := frozen_of dD (o + 1)
  have cE : wE.cell? ⟨d, o + 2, none⟩ = some (.map none) := by rw [cell_of dE, Array.getElem?_setIfInBounds, if_neg (by omega), Array.getElem?_setIfInBounds, if_neg (by omega)]; exact h2
  have cG : wG.cell? ⟨d, o + 2, none⟩ = some (.map none) := by rw [cell_of dG, Array.getElem?_setIfInBounds, if_neg (by omega), Array.getElem?_setIfInBounds, if_neg (by omega)]; exact h2
  have fG := frozen_of dG (o + 2)
  have b1 := fun w => run_eql_map_nil (P := Tryz.prog) w 146 100 155 none Tryz.und146
  have b2 := fun w => run_eql_map_nil (P := Tryz.prog) w 147 155 100 none Tryz.und147
  have b3 := fun w => run_eql_map_nil (P := Tryz.prog) w 148 155 57 none Tryz.und148
  have k1 : (Instr.makeMap 146 none).run Tryz.prog wA = .ok (.map (some (w.heap.size + 1))) wB := by rw [mk_map, hwB, sA]
  have k2 : (Instr.makeMap 147 none).run Tryz.prog wC = .ok (.map (some (w.heap.size + 2))) wD := by rw [mk_map, hwD, sC]
  have k3 : (Instr.makeMap 148 none).run Tryz.prog wE = .ok (.map (some (w.heap.size + 3))) wG := by rw [mk_map, hwG, sE]
  clear KA KB KC KD KE KG KH KAll LH L5 K5 m1H m2H m3H m1G m2G mG m1E m2E m1D mD mC mB dA dB dC dD dE dG dH d5 bB bC bD bE bG bH hbA h0 h1 h2 h hs hd
  go_enter Tryz.func89, Tryz.ntmps89
  simp only [encP]
  go_wp2_with fail
  go_region
  go_wp2_with fail
  go_region
  go_wp2_with fail
  go_region
  all_goals
    go_wp2_with fail
    go_end0
    exact HF.out
end Go.Proofs.YtjebnpkebccffaaGreatDoor
namespace Go.Proofs.YtjebnpkebccffaaGreatDoor
open Go.RowKit
def binE : List (ByteArray × (Int × Int)) := [(⟨#[75, 105]⟩, (2, 10)), (⟨#[77, 105]⟩, (2, 20)), (⟨#[71, 105]⟩, (2, 30)), (⟨#[84, 105]⟩, (2, 40)), (⟨#[80, 105]⟩, (2, 50)), (⟨#[69, 105]⟩, (2, 60))]
def decE : List (ByteArray × (Int × Int)) := [(⟨#[]⟩, (2, 0)), (⟨#[110]⟩, (10, -9)), (⟨#[117]⟩, (10, -6)), (⟨#[109]⟩, (10, -3)), (⟨#[]⟩, (10, 0)), (⟨#[107]⟩, (10, 3)), (⟨#[77]⟩, (10, 6)), (⟨#[71]⟩, (10, 9)), (⟨#[84]⟩, (10, 12)), (⟨#[80]⟩, (10, 15)), (⟨#[69]⟩, (10, 18))]
def sufS (E : List (ByteArray × (Int × Int))) : List (ByteArray × Value) := E.foldl (fun l x => putM l x.1 (encP x.2)) []
def sufP (E : List (ByteArray × (Int × Int))) : List ((Int × Int) × Value) := E.foldl (fun l x => putM l x.2 (.string x.1)) []
def sufT (E : List (ByteArray × (Int × Int))) : List ((Int × Int) × ByteArray) := E.foldl (fun l x => putT l x.2 x.1) []
def Suffixer (w : World) (d : Nat) : Prop := ∃ r1 r2 r3 s1 s2 s3, Lst w d 3 r1 r2 r3 (sufS binE) (sufP binE) (sufT binE) ∧ Lst w d 0 s1 s2 s3 (sufS decE) (sufP decE) (sufT decE)
theorem Lst.other {w w' : World} {d o r1 r2 r3 : Nat} {l1 l2 tx} {cs cs' : Array Value} (h : Lst w d o r1 r2 r3 l1 l2 tx) (hk : Kept (fun i => i = d) w w') (h1 : w.heap[d]? = some (.cells cs 152 (0, 0))) (h2 : w'.heap[d]? = some (.cells cs' 152 (0, 0))) (e0 : cs'[o]? = cs[o]?) (e1 : cs'[o + 1]? = cs[o + 1]?) (e2 : cs'[o + 2]? = cs[o + 2]?) : Lst w' d o r1 r2 r3 l1 l2 tx := by
  have o1 := h.o1; have o2 := h.o2; have o3 := h.o3
  obtain ⟨l3, m, R⟩ := h.m3
  have c0 := h.c0; have c1 := h.c1; have c2 := h.c2
  rw [cell_of h1] at c0 c1 c2
  refine ⟨by rw [cell_of h2, e0, c0], by rw [cell_of h2, e1, c1], by rw [cell_of h2, e2, c2], h.m1.kept hk (by omega), h.m2.kept hk (by omega), ⟨l3, m.kept hk (by omega), R.mono (fun v t hb => hb.kept hk (fun g cs0 fr hg e => ?_))⟩, o1, o2, o3⟩
  subst e
  rw [h1] at hg
  injection hg with hg
  injection hg with _ hg _
  exact absurd hg (by decide)
theorem build155 (a b : Int) (w : World) : (Instr.build 155 #[(0, .int .i32 a), (1, .int .i32 b)]).run Tryz.prog w = .ok (.agg #[.int .i32 a, .int .i32 b]) w := run_build w 155 _ _ (by kernel_rfl)
theorem build152 (w : World) : (Instr.build 152 #[]).run Tryz.prog w = .ok (.agg #[.map none, .map none, .map none, .map none, .map none, .map none]) w := run_build w 152 _ _ (by kernel_rfl)
theorem build157 (a : Option Addr) (w : World) : (Instr.build 157 #[(0, .pointer a)]).run Tryz.prog w = .ok (.agg #[.pointer a]) w := run_build w 157 _ _ (by kernel_rfl)
def NewSuf (w : World) (e : Ending) (w' : World) : Prop := ∃ d, e = .returned (.iface 157 (.agg #[.pointer (some ⟨d, 0, none⟩)])) ∧ w.heap.size ≤ d ∧ Suffixer w' d ∧ Kept (fun _ => False) w w'
set_option maxRecDepth 100000 in
set_option maxHeartbeats 4000000 in
theorem newSuffixer_any (w : World) : Calls Tryz.prog 50 #[] w (NewSuf w) := by
  have ka : Kept (fun _ => False) w (w.alloc (.cells #[.map none, .map none, .map none, .map none, .map none, .map none] 152)) := (Kept.refl _ _).alloc _
  have ha : (w.alloc (.cells #[.map none, .map none, .map none, .map none, .map none, .map none] 152)).heap[w.heap.size]? = some (.cells #[.map none, .map none, .map none, .map none, .map none, .map none] 152 (0, 0)) := heap_alloc_new _ _
  have KA := Lib.hid ka
  have HA := Lib.hid ha
  have q1 := fun a b w => build155 a b w
  have q2 := fun w => build152 w
  have q3 := fun a w => build157 a w
  clear ka ha
  go_enter Tryz.func50, Tryz.ntmps50
  go_wp2_with fail
  generalize hw0 : w.alloc (.cells #[.map none, .map none, .map none, .map none, .map none, .map none] 152) = w0 at *
  clear hw0
  refine (addSuffix_first w.heap.size 3 _ ⟨#[75, 105]⟩ (2, 10) w0 HA.out (by decide) rfl rfl rfl).mono ?_
  rintro e w1 ⟨r1, r2, r3, rfl, g1, g2, g3, g4⟩
  have o1 := g2.o1; have o2 := g2.o2; have o3 := g2.o3
  have hz0 := KA.out.size
  have K1 : Hid (Kept (fun _ => False) w w1) := KA.out.trans g3 (fun _ _ f => f) (fun i hi h => by omega)
  have L1 := Lib.hid g2
  have D1 := Lib.hid g4
  clear g2 g3 g4 HA KA
  go_wp2_with fail
  refine (addSuffix_more w.heap.size 3 r1 r2 r3 _ _ _ ⟨#[77, 105]⟩ (2, 20) w1 L1.out).mono ?_
  rintro e w2 ⟨rfl, g2, g3⟩
  have K2 : Hid (Kept (fun _ => False) w w2) := K1.out.trans g3 (fun _ _ f => f) (fun i hi h => by omega)
  have D2 := Lib.hid (g3.at D1.out (by omega))
  have L2 := Lib.hid g2
  clear g2 g3 L1 D1 K1
  go_wp2_with fail
  refine (addSuffix_more w.heap.size 3 r1 r2 r3 _ _ _ ⟨#[71, 105]⟩ (2, 30) w2 L2.out).mono ?_
  rintro e w3 ⟨rfl, g2, g3⟩
  have K3 : Hid (Kept (fun _ => False) w w3) := K2.out.trans g3 (fun _ _ f => f) (fun i hi h => by omega)
  have D3 := Lib.hid (g3.at D2.out (by omega))
  have L3 := Lib.hid g2
  clear g2 g3 L2 D2 K2
  go_wp2_with fail
  refine (addSuffix_more w.heap.size 3 r1 r2 r3 _ _ _ ⟨#[84, 105]⟩ (2, 40) w3 L3.out).mono ?_
  rintro e w4 ⟨rfl, g2, g3⟩
  have K4 : Hid (Kept (fun _ => False) w w4) := K3.out.trans g3 (fun _ _ f => f) (fun i hi h => by omega)
  have D4 := Lib.hid (g3.at D3.out (by omega))
  have L4 := Lib.hid g2
  clear g2 g3 L3 D3 K3
  go_wp2_with fail
  refine (addSuffix_more w.heap.size 3 r1 r2 r3 _ _ _ ⟨#[80, 105]⟩ (2, 50) w4 L4.out).mono ?_
  rintro e w5 ⟨rfl, g2, g3⟩
  have K5 : Hid (Kept (fun _ => False) w w5) := K4.out.trans g3 (fun _ _ f => f) (fun i hi h => by omega)
  have D5 := Lib.hid (g3.at D4.out (by omega))
  have L5 := Lib.hid g2
  clear g2 g3 L4 D4 K4
  go_wp2_with fail
  refine (addSuffix_more w.heap.size 3 r1 r2 r3 _ _ _ ⟨#[69, 105]⟩ (2, 60) w5 L5.out).mono ?_
  rintro e w6 ⟨rfl, g2, g3⟩
  have K6 : Hid (Kept (fun _ => False) w w6) := K5.out.trans g3 (fun _ _ f => f) (fun i hi h => by omega)
  have D6 := Lib.hid (g3.at D5.out (by omega))
  have L6 := Lib.hid g2
  clear g2 g3 L5 D5 K5
  go_wp2_with fail
  refine (addSuffix_first w.heap.size 0 _ ⟨#[]⟩ (2, 0) w6 D6.out (by simp) (by simp [Array.getElem?_setIfInBounds]) (by simp [Array.getElem?_setIfInBounds]) (by simp [Array.getElem?_setIfInBounds])).mono ?_
  rintro e w7 ⟨s1, s2, s3, rfl, g1, g2, g3, g4⟩
  have p1 := g2.o1; have p2 := g2.o2; have p3 := g2.o3
  have hz1 := K6.out.size
  have hr3 : r3 < w6.heap.size := by obtain ⟨l3, m, _⟩ := L6.out.m3; exact map_block m
  have B7 : Hid (Lst w7 w.heap.size 3 r1 r2 r3 _ _ _) := Lib.hid (L6.out.other g3 D6.out g4 (by simp [Array.getElem?_setIfInBounds]) (by simp [Array.getElem?_setIfInBounds]) (by simp [Array.getElem?_setIfInBounds]))
  have K7 : Hid (Kept (fun _ => False) w w7) := K6.out.trans g3 (fun _ _ f => f) (fun i hi h => by omega)
  have L7' := Lib.hid g2
  clear g2 g3 g4 D6 L6 K6
  go_wp2_with fail
  refine (addSuffix_more w.heap.size 0 s1 s2 s3 _ _ _ ⟨#[110]⟩ (10, -9) w7 L7'.out).mono ?_
  rintro e w8 ⟨rfl, g2, g3⟩
  have K8 : Hid (Kept (fun _ => False) w w8) := K7.out.trans g3 (fun _ _ f => f) (fun i hi h => by omega)
  have B8 : Hid (Lst w8 w.heap.size 3 r1 r2 r3 _ _ _) := Lib.hid (B7.out.kept g3 (by omega) (by omega) (by omega) (by omega) (fun g cs fr hg h => by obtain ⟨l3, m, _⟩ := L7'.out.m3; rcases h with h | h | h; exact cells_ne_map hg L7'.out.m1 h; exact cells_ne_map hg L7'.out.m2 h; exact cells_ne_map hg m h))
  have L8' := Lib.hid g2
  clear g2 g3 L7' B7 K7
  go_wp2_with fail
  refine (addSuffix_more w.heap.size 0 s1 s2 s3 _ _ _ ⟨#[117]⟩ (10, -6) w8 L8'.out).mono ?_
  rintro e w9 ⟨rfl, g2, g3⟩
  have K9 : Hid (Kept (fun _ => False) w w9) := K8.out.trans g3 (fun _ _ f => f) (fun i hi h => by omega)
  have B9 : Hid (Lst w9 w.heap.size 3 r1 r2 r3 _ _ _) := Lib.hid (B8.out.kept g3 (by omega) (by omega) (by omega) (by omega) (fun g cs fr hg h => by obtain ⟨l3, m, _⟩ := L8'.out.m3; rcases h with h | h | h; exact cells_ne_map hg L8'.out.m1 h; exact cells_ne_map hg L8'.out.m2 h; exact cells_ne_map hg m h))
  have L9' := Lib.hid g2
  clear g2 g3 L8' B8 K8
  go_wp2_with fail
  refine (addSuffix_more w.heap.size 0 s1 s2 s3 _ _ _ ⟨#[109]⟩ (10, -3) w9 L9'.out).mono ?_
  rintro e w10 ⟨rfl, g2, g3⟩
  have K10 : Hid (Kept (fun _ => False) w w10) := K9.out.trans g3 (fun _ _ f => f) (fun i hi h => by omega)
  have B10 : Hid (Lst w10 w.heap.size 3 r1 r2 r3 _ _ _) := Lib.hid (B9.out.kept g3 (by omega) (by omega) (by omega) (by omega) (fun g cs fr hg h => by obtain ⟨l3, m, _⟩ := L9'.out.m3; rcases h with h | h | h; exact cells_ne_map hg L9'.out.m1 h; exact cells_ne_map hg L9'.out.m2 h; exact cells_ne_map hg m h))
  have L10' := Lib.hid g2
  clear g2 g3 L9' B9 K9
  go_wp2_with fail
  refine (addSuffix_more w.heap.size 0 s1 s2 s3 _ _ _ ⟨#[]⟩ (10, 0) w10 L10'.out).mono ?_
  rintro e w11 ⟨rfl, g2, g3⟩
  have K11 : Hid (Kept (fun _ => False) w w11) := K10.out.trans g3 (fun _ _ f => f) (fun i hi h => by omega)
  have B11 : Hid (Lst w11 w.heap.size 3 r1 r2 r3 _ _ _) := Lib.hid (B10.out.kept g3 (by omega) (by omega) (by omega) (by omega) (fun g cs fr hg h => by obtain ⟨l3, m, _⟩ := L10'.out.m3; rcases h with h | h | h; exact cells_ne_map hg L10'.out.m1 h; exact cells_ne_map hg L10'.out.m2 h; exact cells_ne_map hg m h))
  have L11' := Lib.hid g2
  clear g2 g3 L10' B10 K10
  go_wp2_with fail
  refine (addSuffix_more w.heap.size 0 s1 s2 s3 _ _ _ ⟨#[107]⟩ (10, 3) w11 L11'.out).mono ?_
  rintro e w12 ⟨rfl, g2, g3⟩
  have K12 : Hid (Kept (fun _ => False) w w12) := K11.out.trans g3 (fun _ _ f => f) (fun i hi h => by omega)
  have B12 : Hid (Lst w12 w.heap.size 3 r1 r2 r3 _ _ _) := Lib.hid (B11.out.kept g3 (by omega) (by omega) (by omega) (by omega) (fun g cs fr hg h => by obtain ⟨l3, m, _⟩ := L11'.out.m3; rcases h with h | h | h; exact cells_ne_map hg L11'.out.m1 h; exact cells_ne_map hg L11'.out.m2 h; exact cells_ne_map hg m h))
  have L12' := Lib.hid g2
  clear g2 g3 L11' B11 K11
  go_wp2_with fail
  refine (addSuffix_more w.heap.size 0 s1 s2 s3 _ _ _ ⟨#[77]⟩ (10, 6) w12 L12'.out).mono ?_
  rintro e w13 ⟨rfl, g2, g3⟩
  have K13 : Hid (Kept (fun _ => False) w w13) := K12.out.trans g3 (fun _ _ f => f) (fun i hi h => by omega)
  have B13 : Hid (Lst w13 w.heap.size 3 r1 r2 r3 _ _ _) := Lib.hid (B12.out.kept g3 (by omega) (by omega) (by omega) (by omega) (fun g cs fr hg h => by obtain ⟨l3, m, _⟩ := L12'.out.m3; rcases h with h | h | h; exact cells_ne_map hg L12'.out.m1 h; exact cells_ne_map hg L12'.out.m2 h; exact cells_ne_map hg m h))
  have L13' := Lib.hid g2
  clear g2 g3 L12' B12 K12
  go_wp2_with fail
  refine (addSuffix_more w.heap.size 0 s1 s2 s3 _ _ _ ⟨#[71]⟩ (10, 9) w13 L13'.out).mono ?_
  rintro e w14 ⟨rfl, g2, g3⟩
  have K14 : Hid (Kept (fun _ => False) w w14) := K13.out.trans g3 (fun _ _ f => f) (fun i hi h => by omega)
  have B14 : Hid (Lst w14 w.heap.size 3 r1 r2 r3 _ _ _) := Lib.hid (B13.out.kept g3 (by omega) (by omega) (by omega) (by omega) (fun g cs fr hg h => by obtain ⟨l3, m, _⟩ := L13'.out.m3; rcases h with h | h | h; exact cells_ne_map hg L13'.out.m1 h; exact cells_ne_map hg L13'.out.m2 h; exact cells_ne_map hg m h))
  have L14' := Lib.hid g2
  clear g2 g3 L13' B13 K13
  go_wp2_with fail
  refine (addSuffix_more w.heap.size 0 s1 s2 s3 _ _ _ ⟨#[84]⟩ (10, 12) w14 L14'.out).mono ?_
  rintro e w15 ⟨rfl, g2, g3⟩
  have K15 : Hid (Kept (fun _ => False) w w15) := K14.out.trans g3 (fun _ _ f => f) (fun i hi h => by omega)
  have B15 : Hid (Lst w15 w.heap.size 3 r1 r2 r3 _ _ _) := Lib.hid (B14.out.kept g3 (by omega) (by omega) (by omega) (by omega) (fun g cs fr hg h => by obtain ⟨l3, m, _⟩ := L14'.out.m3; rcases h with h | h | h; exact cells_ne_map hg L14'.out.m1 h; exact cells_ne_map hg L14'.out.m2 h; exact cells_ne_map hg m h))
  have L15' := Lib.hid g2
  clear g2 g3 L14' B14 K14
  go_wp2_with fail
  refine (addSuffix_more w.heap.size 0 s1 s2 s3 _ _ _ ⟨#[80]⟩ (10, 15) w15 L15'.out).mono ?_
  rintro e w16 ⟨rfl, g2, g3⟩
  have K16 : Hid (Kept (fun _ => False) w w16) := K15.out.trans g3 (fun _ _ f => f) (fun i hi h => by omega)
  have B16 : Hid (Lst w16 w.heap.size 3 r1 r2 r3 _ _ _) := Lib.hid (B15.out.kept g3 (by omega) (by omega) (by omega) (by omega) (fun g cs fr hg h => by obtain ⟨l3, m, _⟩ := L15'.out.m3; rcases h with h | h | h; exact cells_ne_map hg L15'.out.m1 h; exact cells_ne_map hg L15'.out.m2 h; exact cells_ne_map hg m h))
  have L16' := Lib.hid g2
  clear g2 g3 L15' B15 K15
  go_wp2_with fail
  refine (addSuffix_more w.heap.size 0 s1 s2 s3 _ _ _ ⟨#[69]⟩ (10, 18) w16 L16'.out).mono ?_
  rintro e w17 ⟨rfl, g2, g3⟩
  have K17 : Hid (Kept (fun _ => False) w w17) := K16.out.trans g3 (fun _ _ f => f) (fun i hi h => by omega)
  have B17 : Hid (Lst w17 w.heap.size 3 r1 r2 r3 _ _ _) := Lib.hid (B16.out.kept g3 (by omega) (by omega) (by omega) (by omega) (fun g cs fr hg h => by obtain ⟨l3, m, _⟩ := L16'.out.m3; rcases h with h | h | h; exact cells_ne_map hg L16'.out.m1 h; exact cells_ne_map hg L16'.out.m2 h; exact cells_ne_map hg m h))
  have L17' := Lib.hid g2
  clear g2 g3 L16' B16 K16
  go_wp2_with fail
  go_ret
  exact ⟨w.heap.size, rfl, by omega, ⟨r1, r2, r3, s1, s2, s3, B17.out, L17'.out⟩, K17.out⟩
end Go.Proofs.YtjebnpkebccffaaGreatDoor
namespace Go.Proofs.YtjebnpkebccffaaGreatDoor
open Go.RowKit
theorem zero155 (w : World) : (zeroValue 155).run Tryz.prog w = .ok (.agg #[.int .i32 0, .int .i32 0]) w := by kernel_rfl
theorem zero57 (w : World) : (zeroValue 57).run Tryz.prog w = .ok (.slice none 0 0) w := by kernel_rfl
set_option maxRecDepth 100000 in
set_option maxHeartbeats 1000000 in
theorem lookup_any (d o r1 r2 r3 : Nat) (l1 : List (ByteArray × Value)) (l2 : List ((Int × Int) × Value)) (tx : List ((Int × Int) × ByteArray)) (s : ByteArray) (w : World) (h : Lst w d o r1 r2 r3 l1 l2 tx) (a b : Int) (ok : Bool) (hl : ((lkp l1 s 0).map (·.2)).getD (.agg #[.int .i32 0, .int .i32 0]) = encP (a, b) ∧ (lkp l1 s 0).isSome = ok) (h0 : ok = false → a = 0 ∧ b = 0) :
    Calls Tryz.prog 330 #[.pointer (some ⟨d, o, none⟩), .string s] w fun e w' => e = .returned (.tuple #[.int .i32 a, .int .i32 b, .bool ok]) ∧ Kept (fun _ => False) w w' := by
  have hc := h.c0
  have hk := run_look encS 146 100 155 Tryz.und146 keyS100 w r1 l1 h.m1 s (.agg #[.int .i32 0, .int .i32 0]) (zero155 w)
  rw [hl.1, hl.2] at hk
  simp only [encS, encP] at hk
  have K1 : Kept (fun _ => False) w (w.alloc (.cells #[.int .i32 0, .int .i32 0] 155)) := (Kept.refl _ _).alloc _
  have n1 := heap_alloc_new w (.cells #[.int .i32 0, .int .i32 0] 155)
  have f0 := frozen_of n1 0
  have f1 : (w.alloc (.cells #[.int .i32 0, .int .i32 0] 155)).frozen? ⟨w.heap.size, 1, none⟩ = false := frozen_of n1 1
  have n2 := heap_alloc_new w (.cells #[.int .i32 a, .int .i32 b] 155)
  have c0 : (w.alloc (.cells #[.int .i32 a, .int .i32 b] 155)).drew.cell? ⟨w.heap.size, 0, none⟩ = some (.int .i32 a) := by show (w.alloc _).cell? _ = _; rw [cell_of n2]; rfl
  have c1 : (w.alloc (.cells #[.int .i32 a, .int .i32 b] 155)).drew.cell? ⟨w.heap.size, 1, none⟩ = some (.int .i32 b) := by show (w.alloc _).cell? _ = _; rw [cell_of n2]; rfl
  have K2 : Kept (fun _ => False) w (w.alloc (.cells #[.int .i32 a, .int .i32 b] 155)) := (Kept.refl _ _).alloc _
  clear hl h n1 n2
  cases ok with
  | true =>
    go_enter Tryz.func330, Tryz.ntmps330
    go_wp2_with fail
    go_quiet (fail)
    go_wp2_with fail
    go_ret3
    exact ⟨rfl, K2.drewN _⟩
  | false =>
    obtain ⟨rfl, rfl⟩ := h0 rfl
    go_enter Tryz.func330, Tryz.ntmps330
    go_wp2_with fail
    go_ret3
    exact ⟨rfl, K2⟩
end Go.Proofs.YtjebnpkebccffaaGreatDoor
