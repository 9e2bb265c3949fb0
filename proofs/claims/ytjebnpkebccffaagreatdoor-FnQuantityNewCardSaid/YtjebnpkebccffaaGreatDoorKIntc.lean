import Derived.Test.YtjebnpkebccffaaGreatDoorKInt
import Derived.Deep.DeepCutAuto
import Derived.Deep.CutBlock
import Derived.StillTailTactics
set_option linter.unusedSimpArgs false
set_option linter.unusedVariables false
set_option linter.unusedSectionVars false
namespace Go.Proofs.YtjebnpkebccffaaGreatDoor
open Go.RowKit
theorem wpStill_of_quiet {P : Program} {ops : Array Oper} {w : World} {Q : Act → Prop} (l : List Oper) : ∀ a, wpQuiet P ops (fun w' => w' = w) Q l a → wpStill P ops w Q l a := by
  induction l with
  | nil => intro a h; exact h
  | cons o l ih =>
    intro a h
    unfold wpQuiet at h
    unfold wpStill
    by_cases hw : Region.wanted o (yielded ops a.tmps) = true
    · rw [if_pos hw] at h ⊢
      obtain ⟨v, h1, h2⟩ := h
      have h3 := h1 w rfl
      unfold Oper.quietAt at h3
      unfold Oper.still
      generalize (execOp a.eval o).run P w = r at h3 ⊢
      match r, h3 with
      | .ok (.value u) w', h3 => obtain ⟨e1, e2⟩ := h3; subst e2; exact ⟨e1, ih _ h2⟩
      | .ok .skip w', h3 => obtain ⟨e1, e2⟩ := h3; subst e2; exact ⟨e1, ih _ h2⟩
      | .ok (.enter f args) w', h3 => obtain ⟨e1, e2⟩ := h3; exact ⟨e1, v, e2, ih _ h2⟩
    · rw [if_neg hw] at h ⊢
      exact ih _ h
def Mid (w : World) (z : Nat) (bz : Option Nat) (n : Nat) (s0 : Bool) (rz : List Value) (Tz : TypeId) (wx : World) : Prop :=
  ∃ v' b', NatAt wx v' n b' ∧ Kept (fun k => k = z ∨ bz = some k) w wx ∧ Own w bz b' ∧ b' ≠ some z ∧ wx.heap[z]? = some (.cells (Value.bool s0 :: v' :: rz).toArray Tz (0, 0))
theorem mid_mk {w W w1 : World} {z : Nat} {bz b' : Option Nat} {n : Nat} {s0 : Bool} {v v' : Value} {rz : List Value} {Tz : TypeId} (hd : W.heap = w.heap) (hos : W.os = w.os) (ht : W.tape = w.tape) (ho : W.output = w.output)
    (hz1 : w.heap[z]? = some (.cells (Value.bool s0 :: v :: rz).toArray Tz (0, 0))) (hbz : bz ≠ some z) (h : NatAt w1 v' n b' ∧ Kept (fun k => bz = some k) W w1 ∧ Own W bz b') :
    Mid w z bz n s0 rz Tz (w1.setCell ⟨z, 1, none⟩ v') := by
  obtain ⟨hN, hK, hO⟩ := h
  have hO' : Own w bz b' := by unfold Own at hO ⊢; rw [hd] at hO; exact hO
  have hK' : Kept (fun k => bz = some k) w w1 := ⟨hK.os.trans hos, hK.tape.trans ht, hK.output.trans ho, by have := hK.size; rw [hd] at this; exact this, fun k hk hs => by rw [hK.block k (by rw [hd]; exact hk) hs, hd]⟩
  have hne := own_ne hO' (heap_lt hz1) hbz
  refine ⟨v', b', hN.move ?_, ?_, hO', hne, int_set1 (hK'.at hz1 hbz) v'⟩
  · intro k hk
    have : k ≠ z := by intro e; subst e; exact hne hk
    rw [heap_set_ne this]
  · have h1 : Kept (fun k => k = z ∨ bz = some k) w w1 := hK'.mono (fun _ _ h => Or.inr h)
    exact h1.setCell ⟨z, 1, none⟩ _ (fun _ => Or.inl rfl)
theorem mid_fin {w wx : World} {z : Nat} {bz : Option Nat} {n : Int} {s0 : Bool} {rz : List Value} {Tz : TypeId} (h : Mid w z bz n.natAbs s0 rz Tz wx) (nq : Nat) {s : Bool} (hs : s = decide (n < 0)) :
    IntRes w z bz n rz Tz (.returned (.pointer (some ⟨z, 0, none⟩))) ((wx.drewN nq).setCell ⟨z, 0, none⟩ (.bool s)) := by
  obtain ⟨v', b', h1, h2, h3, h4, h5⟩ := h
  refine ⟨rfl, b', ⟨v', by rw [hs]; exact int_set0 (w := wx.drewN nq) h5 _, h1.move ?_, h4⟩, ?_, h3⟩
  · intro k hk
    have : k ≠ z := by intro e; subst e; exact h4 hk
    rw [heap_set_ne this]; rfl
  · exact (h2.drewN nq).setCell ⟨z, 0, none⟩ _ (fun _ => Or.inl rfl)
theorem mid_fin1 {w wx : World} {z : Nat} {bz : Option Nat} {n : Int} {s0 : Bool} {rz : List Value} {Tz : TypeId} (h : Mid w z bz n.natAbs s0 rz Tz wx) {s : Bool} (hs : s = decide (n < 0)) :
    IntRes w z bz n rz Tz (.returned (.pointer (some ⟨z, 0, none⟩))) ((wx.setCell ⟨z, 0, none⟩ (.bool s)).drew) := by
  have := mid_fin h 0 hs
  obtain ⟨h1, b', h2, h3, h4⟩ := this
  exact ⟨h1, b', h2.move rfl (fun _ _ => rfl), h3.drew, h4⟩
theorem sign_mul {n m : Int} (h : n * m ≠ 0) : (decide (n < 0) != decide (m < 0)) = decide (n * m < 0) := by
  have hn : n ≠ 0 := by intro e; subst e; simp at h
  have hm : m ≠ 0 := by intro e; subst e; simp at h
  by_cases h1 : n < 0 <;> by_cases h2 : m < 0
  · have : 0 < n * m := Int.mul_pos_of_neg_of_neg h1 h2
    simp [h1, h2]; omega
  · have : n * m < 0 := Int.mul_neg_of_neg_of_pos h1 (by omega)
    simp [h1, h2]; omega
  · have : n * m < 0 := Int.mul_neg_of_pos_of_neg (by omega) h2
    simp [h1, h2]; omega
  · have : 0 < n * m := Int.mul_pos (by omega) (by omega)
    simp [h1, h2]; omega
set_option maxRecDepth 100000 in
set_option maxHeartbeats 2000000 in
theorem Int_mul_of (s : Option Addr) (z x y : Nat) (nz n m : Int) (bz bx by_ : Option Nat) (rz rx ry : List Value) (Tz Tx Ty : TypeId) (w : World) (hz : IntAt w z nz bz rz Tz) (hx : IntAt w x n bx rx Tx) (hy : IntAt w y m by_ ry Ty)
    (hxy : x ≠ y) (hzx : z = x ∨ (z ≠ x ∧ bz ≠ some x)) (hzy : z ≠ y) (hby : bz ≠ some y)
    (hmul : ∀ (W : World) (vz vx vy : Value), NatAt W vz nz.natAbs bz → NatAt W vx n.natAbs bx → NatAt W vy m.natAbs by_ → Calls Tryz.prog 139 #[vz, .pointer s, vx, vy] W (NatRes W bz (n.natAbs * m.natAbs))) :
    Calls Tryz.prog 98 #[.pointer (some ⟨z, 0, none⟩), .pointer s, .pointer (some ⟨x, 0, none⟩), .pointer (some ⟨y, 0, none⟩)] w fun e w' => e = .returned (.tuple #[]) ∧ IntRes w z bz (n * m) rz Tz (.returned (.pointer (some ⟨z, 0, none⟩))) w' := by
  obtain ⟨vz, hz1, hz2, hz3⟩ := hz
  obtain ⟨vx, hx1, hx2, hx3⟩ := hx
  obtain ⟨vy, hy1, hy2, hy3⟩ := hy
  have hq := ptr_int_other hxy hx1 hy1
  obtain ⟨cz0, cz1, fz0, fz1⟩ := int_cells hz1
  obtain ⟨cx0, cx1, _, _⟩ := int_cells hx1
  obtain ⟨cy0, cy1, _, _⟩ := int_cells hy1
  have HM := Lib.hid (hmul w.drew vz vx vy (by exact hz2) (by exact hx2) (by exact hy2))
  have HFIN := Lib.hid (fun (w1 : World) (b' : Option Nat) (v' : Value) h => mid_mk (w := w) (W := w.drew) (w1 := w1) (b' := b') (n := n.natAbs * m.natAbs) (v' := v') rfl rfl rfl rfl hz1 hz3 h)
  have HX0 : Hid (∀ wx, Mid w z bz (n.natAbs * m.natAbs) (decide (nz < 0)) rz Tz wx → wx.cell? ⟨x, 0, none⟩ = some (.bool (decide (n < 0))) ∧ wx.cell? ⟨y, 0, none⟩ = some (.bool (decide (m < 0))) ∧ wx.frozen? ⟨z, 0, none⟩ = false ∧ wx.cell? ⟨z, 0, none⟩ = some (.bool (decide (nz < 0)))) := by
    intro wx ⟨v', b', h1, h2, h3, h4, h5⟩
    obtain ⟨d0, _, d2, _⟩ := int_cells h5
    have ey := h2.at hy1 (by intro h; rcases h with h | h; exact hzy h.symm; exact hby h)
    obtain ⟨e0, _, _, _⟩ := int_cells ey
    refine ⟨?_, e0, d2, d0⟩
    rcases hzx with h | ⟨h, hb⟩
    · subst h
      rw [hz1] at hx1
      injection hx1 with a; injection a with a; simp at a
      rw [d0]
      exact congrArg (fun b => some (Value.bool b)) (by simpa using a.1)
    · have ex := h2.at hx1 (by intro h'; rcases h' with h' | h'; exact h h'.symm; exact hb h')
      exact (int_cells ex).1
  have HSZ : Hid (∀ wx, Mid w z bz (n.natAbs * m.natAbs) (decide (nz < 0)) rz Tz wx → ∃ a c, wx.cell? ⟨z, 1, none⟩ = some (.slice a (dig (n.natAbs * m.natAbs)).length c)) := by
    intro wx ⟨v', b', h1, h2, h3, h4, h5⟩
    obtain ⟨a, c, rfl⟩ := nat_slice h1
    exact ⟨a, c, (int_cells h5).2.1⟩
  have HW1 : Hid (∀ (w1 : World), Kept (fun k => bz = some k) w.drew w1 → w1.cell? ⟨z, 1, none⟩ = some vz ∧ w1.frozen? ⟨z, 1, none⟩ = false) := by
    intro w1 hK
    have e := hK.at (o := .cells (Value.bool (decide (nz < 0)) :: vz :: rz).toArray Tz (0, 0)) hz1 hz3
    exact ⟨(int_cells e).2.1, (int_cells e).2.2.2⟩
  clear hz1 hx1 hy1 hz2 hx2 hy2 hmul hzx hby
  go_enter Tryz.func98, Tryz.ntmps98
  go_upto_region 3 with (fail)
  go_cut [] (fun wx => Mid w z bz (n.natAbs * m.natAbs) (decide (nz < 0)) rz Tz wx)
  case first =>
    go_region_with (go_at_call 139; refine HM.out.mono ?_; rintro e w1 ⟨v', b', rfl, h⟩; obtain ⟨a', c', rfl⟩ := nat_slice h.1; obtain ⟨g1, g2⟩ := HW1.out w1 h.2.1; have H := Lib.hid h; clear h)
    all_goals (go_wp2_with fail; go_meet; exact HFIN.out _ _ _ H.out)
  case rest =>
    obtain ⟨x0, y0, fz, zz0⟩ := HX0.out _ hcut
    obtain ⟨a, c, z1⟩ := HSZ.out _ hcut
    have HC := Lib.hid hcut
    clear hcut
    by_cases h0 : n * m = 0
    · have e0 : (dig (n.natAbs * m.natAbs)).length = 0 := by rw [← Int.natAbs_mul, h0]; simp [dig_zero]
      rw [e0] at z1
      have g1 : decide ((0 : Int) < 0) = false := by decide
      have HS : Hid (false = decide (n * m < 0)) := by rw [h0]; rfl
      clear e0
      go_wp2_with fail
      refine wp_region_still_tail 20 (by kernel_rfl) (by kernel_rfl) ?_
      simp only [List.take_succ_cons, List.take_zero, List.drop_succ_cons, List.drop_zero]
      refine wpStill_of_quiet _ _ ?_
      change wpQuiet _ _ (fun w' => w' = wc.drew) _ _ _
      repeat (go_big_quiet_step (fail))
      refine wpQuiet_nil ?_
      change wpList _ _ _ _ _ wc.drew
      go_wp2_with fail
      go_end0
      exact ⟨rfl, mid_fin1 (by have := HC.out; rwa [← Int.natAbs_mul] at this) HS.out⟩
    · have e0 := dig_len_pos (n := n.natAbs * m.natAbs) (by rw [← Int.natAbs_mul]; omega)
      have HS := Lib.hid (sign_mul h0)
      generalize hL : (dig (n.natAbs * m.natAbs)).length = L at *
      have g1 : decide ((0 : Int) < (L : Int)) = true := decT (by omega)
      clear hL
      go_wp2_with fail
      refine wp_region_still_tail 20 (by kernel_rfl) (by kernel_rfl) ?_
      simp only [List.take_succ_cons, List.take_zero, List.drop_succ_cons, List.drop_zero]
      refine wpStill_of_quiet _ _ ?_
      change wpQuiet _ _ (fun w' => w' = wc.drew) _ _ _
      repeat (go_big_quiet_step (fail))
      refine wpQuiet_nil ?_
      change wpList _ _ _ _ _ wc.drew
      go_wp2_with fail
      go_end0
      exact ⟨rfl, mid_fin1 (by have := HC.out; rwa [← Int.natAbs_mul] at this) HS.out⟩
end Go.Proofs.YtjebnpkebccffaaGreatDoor
