import Derived.Test.YtjebnpkebccffaaGreatDoorKMul
import Derived.Deep.RegionHeld3
set_option linter.unusedSimpArgs false
set_option linter.unusedVariables false
set_option linter.unusedSectionVars false
namespace Go.Proofs.YtjebnpkebccffaaGreatDoor
open Go.RowKit
def IntAt (w : World) (p : Nat) (n : Int) (b : Option Nat) (rest : List Value) (T : TypeId) : Prop :=
  ∃ v, w.heap[p]? = some (.cells (Value.bool (decide (n < 0)) :: v :: rest).toArray T (0, 0)) ∧ NatAt w v n.natAbs b ∧ b ≠ some p
def IntRes (w : World) (z : Nat) (b : Option Nat) (n : Int) (rest : List Value) (T : TypeId) (e : Ending) (w' : World) : Prop :=
  e = .returned (.pointer (some ⟨z, 0, none⟩)) ∧ ∃ b', IntAt w' z n b' rest T ∧ Kept (fun k => k = z ∨ b = some k) w w' ∧ Own w b b'
theorem IntAt.lt {w : World} {p : Nat} {n : Int} {b : Option Nat} {rest : List Value} {T : TypeId} (h : IntAt w p n b rest T) : p < w.heap.size := by
  obtain ⟨v, h1, _⟩ := h; exact heap_lt h1
theorem IntAt.lts {w : World} {p : Nat} {n : Int} {b : Option Nat} {rest : List Value} {T : TypeId} (h : IntAt w p n b rest T) : ∀ k, b = some k → k < w.heap.size := by
  obtain ⟨v, _, h1, _⟩ := h; exact h1.lts
theorem IntAt.move {w w' : World} {p : Nat} {n : Int} {b : Option Nat} {rest : List Value} {T : TypeId} (h : IntAt w p n b rest T) (hp : w'.heap[p]? = w.heap[p]?) (hb : ∀ k, b = some k → w'.heap[k]? = w.heap[k]?) : IntAt w' p n b rest T := by
  obtain ⟨v, h1, h2, h3⟩ := h
  exact ⟨v, hp.trans h1, h2.move hb, h3⟩
theorem IntAt.kept {S : Nat → Prop} {w w' : World} {p : Nat} {n : Int} {b : Option Nat} {rest : List Value} {T : TypeId} (h : IntAt w p n b rest T) (hk : Kept S w w') (hp : ¬ S p) (hb : ∀ k, b = some k → ¬ S k) : IntAt w' p n b rest T :=
  h.move (hk.block p h.lt hp) (fun k hk' => hk.block k (h.lts k hk') (hb k hk'))
theorem IntAt.drew {w w' : World} {p : Nat} {n : Int} {b : Option Nat} {rest : List Value} {T : TypeId} (h : IntAt w p n b rest T) (hd : Drew w w') : IntAt w' p n b rest T :=
  h.move (by rw [hd.heap]) (fun k _ => by rw [hd.heap])
theorem int_set2 {w : World} {z : Nat} {a v : Value} {rest : List Value} {T : TypeId} (h : w.heap[z]? = some (.cells (a :: v :: rest).toArray T (0, 0))) (v' n' : Value) :
    ((w.setCell ⟨z, 1, none⟩ v').setCell ⟨z, 0, none⟩ n').heap[z]? = some (.cells (n' :: v' :: rest).toArray T (0, 0)) := by
  rw [heap_set_same (heap_set_same h 1 v') 0 n']
  simp
theorem int_set1 {w : World} {z : Nat} {a v : Value} {rest : List Value} {T : TypeId} (h : w.heap[z]? = some (.cells (a :: v :: rest).toArray T (0, 0))) (v' : Value) :
    (w.setCell ⟨z, 1, none⟩ v').heap[z]? = some (.cells (a :: v' :: rest).toArray T (0, 0)) := by
  rw [heap_set_same h 1 v']
  simp
theorem int_set0 {w : World} {z : Nat} {a v : Value} {rest : List Value} {T : TypeId} (h : w.heap[z]? = some (.cells (a :: v :: rest).toArray T (0, 0))) (n' : Value) :
    (w.setCell ⟨z, 0, none⟩ n').heap[z]? = some (.cells (n' :: v :: rest).toArray T (0, 0)) := by
  rw [heap_set_same h 0 n']
  simp
theorem int_cells {w : World} {z : Nat} {a v : Value} {rest : List Value} {T : TypeId} (h : w.heap[z]? = some (.cells (a :: v :: rest).toArray T (0, 0))) :
    w.cell? ⟨z, 0, none⟩ = some a ∧ w.cell? ⟨z, 1, none⟩ = some v ∧ w.frozen? ⟨z, 0, none⟩ = false ∧ w.frozen? ⟨z, 1, none⟩ = false :=
  ⟨by rw [cell_of h]; rfl, by rw [cell_of h]; rfl, frozen_of h 0, frozen_of h 1⟩
theorem own_ne {w : World} {b b' : Option Nat} {z : Nat} (h : Own w b b') (hz : z < w.heap.size) (hb : b ≠ some z) : b' ≠ some z := by
  rcases h with h | ⟨k, h1, h2⟩
  · rw [h]; exact hb
  · rw [h1]; intro he; injection he with he; omega
theorem Tryz.info109 : (Tryz.prog.info? 109).map (fun i => (i.size, i.bytes)) = some (2, 32) := by kernel_rfl
theorem ptr_int_other {w : World} {a b : Nat} {ca cb : Array Value} {ta tb : TypeId} (hne : a ≠ b) (ha : w.heap[a]? = some (.cells ca ta (0, 0))) (hb : w.heap[b]? = some (.cells cb tb (0, 0))) :
    (binOp .eql 117 (.pointer (some ⟨a, 0, none⟩)) (.pointer (some ⟨b, 0, none⟩))).run Tryz.prog w = .ok (.bool false) w := by
  obtain ⟨i, hi, hzz⟩ := Option.map_eq_some_iff.1 Tryz.info109
  simp only [Prod.mk.injEq] at hzz
  exact run_eql_ptr_other w Tryz.underlying117 hi (by omega) (by intro h; injection h with h; exact hne h) ha hb
theorem ptr_int_neq {w : World} {a b : Nat} {ca cb : Array Value} {ta tb : TypeId} (hne : a ≠ b) (ha : w.heap[a]? = some (.cells ca ta (0, 0))) (hb : w.heap[b]? = some (.cells cb tb (0, 0))) :
    (binOp .neq 117 (.pointer (some ⟨a, 0, none⟩)) (.pointer (some ⟨b, 0, none⟩))).run Tryz.prog w = .ok (.bool true) w := by
  obtain ⟨j, hte, hzz⟩ := Option.map_eq_some_iff.1 Tryz.info109
  simp only [Prod.mk.injEq] at hzz
  have hsz : j.size ≠ 0 := by omega
  have hne' : (⟨a, 0, none⟩ : Addr) ≠ ⟨b, 0, none⟩ := by intro h; injection h with h; exact hne h
  have h : ∀ d : Nat, (Op.equalIn (d + 1) 117 (.pointer (some ⟨a, 0, none⟩)) (.pointer (some ⟨b, 0, none⟩))).run Tryz.prog w = .ok false w := fun d => by
    simp [Op.equalIn, run_underlying Tryz.underlying117, sizeOf, typeInfo, hte, hsz, run_sameAddr_other w hne' ha hb]
  simp only [binOp]
  simp [Op.equal, Op.maxDepth, h 9999]
theorem int_fin {w w1 : World} {z : Nat} {a v : Value} {rest : List Value} {T : TypeId} {bz b' : Option Nat} {n : Int} {v' : Value} (hz1 : w.heap[z]? = some (.cells (a :: v :: rest).toArray T (0, 0))) (hbz : bz ≠ some z)
    (hN : NatAt w1 v' n.natAbs b') (hK : Kept (fun k => bz = some k) w w1) (hO : Own w bz b') :
    IntRes w z bz n rest T (.returned (.pointer (some ⟨z, 0, none⟩))) ((w1.setCell ⟨z, 1, none⟩ v').setCell ⟨z, 0, none⟩ (.bool (decide (n < 0)))) := by
  have hne := own_ne hO (heap_lt hz1) hbz
  refine ⟨rfl, b', ⟨v', int_set2 (hK.at hz1 hbz) _ _, hN.move ?_, hne⟩, ?_, hO⟩
  · intro k hk
    have : k ≠ z := by intro e; subst e; exact hne hk
    rw [heap_set_ne this, heap_set_ne this]
  · have h1 : Kept (fun k => k = z ∨ bz = some k) w w1 := hK.mono (fun _ _ h => Or.inr h)
    exact (h1.setCell ⟨z, 1, none⟩ _ (fun _ => Or.inl rfl)).setCell ⟨z, 0, none⟩ _ (fun _ => Or.inl rfl)
theorem Kept.undrew {S : Nat → Prop} {w w' : World} (h : Kept S w.drew w') : Kept S w w' := ⟨h.os, h.tape, h.output, h.size, h.block⟩
theorem Kept.undrewN {S : Nat → Prop} {w w' : World} {n : Nat} (h : Kept S (w.drewN n) w') : Kept S w w' := ⟨h.os, h.tape, h.output, h.size, h.block⟩
set_option maxHeartbeats 1000000 in
set_option maxRecDepth 100000 in
theorem Int_Set (z x : Nat) (nz n : Int) (bz bx : Option Nat) (rz rx : List Value) (Tz Tx : TypeId) (w : World) (hz : IntAt w z nz bz rz Tz) (hx : IntAt w x n bx rx Tx) (hne : z ≠ x) (hb1 : bz ≠ some x) (hn : Sm n.natAbs) :
    Calls Tryz.prog 97 #[.pointer (some ⟨z, 0, none⟩), .pointer (some ⟨x, 0, none⟩)] w (IntRes w z bz n rz Tz) := by
  obtain ⟨vz, hz1, hz2, hz3⟩ := hz
  obtain ⟨vx, hx1, hx2, hx3⟩ := hx
  have hq := ptr_int_neq hne hz1 hx1
  obtain ⟨cz0, cz1, fz0, fz1⟩ := int_cells hz1
  obtain ⟨cx0, cx1, _, _⟩ := int_cells hx1
  have HZ1 := Lib.hid hz1
  have HX1 := Lib.hid hx1
  have HZ2 := Lib.hid hz2
  have HX2 := Lib.hid hx2
  have HN := Lib.hid hn
  clear hz1 hx1 hz2 hx2 hn
  have setk : ∀ (w1 : World) (v' : Value) (b' : Option Nat), NatAt w1 v' n.natAbs b' ∧ Kept (fun k => bz = some k) w.drew w1 ∧ Own w.drew bz b' →
      w1.cell? ⟨z, 1, none⟩ = some vz ∧ w1.cell? ⟨x, 1, none⟩ = some vx ∧ w1.cell? ⟨z, 0, none⟩ = some (.bool (decide (nz < 0))) ∧ w1.cell? ⟨x, 0, none⟩ = some (.bool (decide (n < 0))) ∧ w1.frozen? ⟨z, 0, none⟩ = false ∧ w1.frozen? ⟨z, 1, none⟩ = false ∧
      Hid (NatAt w1 v' n.natAbs b' ∧ Kept (fun k => bz = some k) w w1 ∧ Own w bz b') := by
    intro w1 v' b' ⟨h1, h2, h3⟩
    have h2' : Kept (fun k => bz = some k) w w1 := ⟨h2.os, h2.tape, h2.output, h2.size, h2.block⟩
    have ez := h2'.at HZ1.out hz3
    have ex := h2'.at HX1.out hb1
    obtain ⟨c1, c2, c3, c4⟩ := int_cells ez
    obtain ⟨d1, d2, _, _⟩ := int_cells ex
    exact ⟨c2, d2, c1, d1, c3, c4, h1, h2', h3⟩
  have SETK := Lib.hid setk
  clear setk
  go_enter Tryz.func97, Tryz.ntmps97
  go_wp2_with fail
  go_region_with (go_at_call 134; refine (set_any vz vx bz bx _ w.drew (by exact HZ2.out.buf) (by exact HX2.out) HN.out).mono ?_; rintro e w1 ⟨v', b', rfl, h⟩; obtain ⟨a', c', rfl⟩ := nat_slice h.1; obtain ⟨k1, k2, k3, k4, k5, k6, k7⟩ := SETK.out w1 _ b' h; clear h)
  all_goals
    go_wp2_with fail
    go_ret
    exact int_fin HZ1.out hz3 k7.out.1 k7.out.2.1 k7.out.2.2
end Go.Proofs.YtjebnpkebccffaaGreatDoor
namespace Go.Proofs.YtjebnpkebccffaaGreatDoor
open Go.RowKit
theorem quiet_add {P : Program} {f : FuncId} {args : Array Value} {w : World} {a n : Nat} {v : Value}
    (h : Calls P f args (w.drewN (a + n)) fun e w' => e = .returned v ∧ Drew (w.drewN (a + n)) w') :
    Calls P f args (w.drewN (a + n)) fun e w'' => e = .returned v ∧ ∃ m, w'' = w.drewN (a + m) :=
  h.mono fun _ _ ⟨he, m, hm⟩ => ⟨he, n + m, by rw [hm, World.drewN_drewN, Nat.add_assoc]⟩
theorem quiet_one {P : Program} {f : FuncId} {args : Array Value} {w : World} {n : Nat} {v : Value}
    (h : Calls P f args (w.drewN n) fun e w' => e = .returned v ∧ Drew (w.drewN n) w') :
    Calls P f args (w.drewN n) fun e w'' => e = .returned v ∧ ∃ m, w'' = w.drewN m :=
  h.mono fun _ _ ⟨he, m, hm⟩ => ⟨he, n + m, by rw [hm, World.drewN_drewN]⟩
def NewRes (w : World) (n : Int) (e : Ending) (w' : World) : Prop :=
  ∃ p b, e = .returned (.pointer (some ⟨p, 0, none⟩)) ∧ w.heap.size ≤ p ∧ IntAt w' p n b [] 109 ∧ Kept (fun _ => False) w w' ∧ (∀ k, b = some k → w.heap.size ≤ k)
theorem new_zero (w : World) : NewRes w 0 (.returned (.pointer (some ⟨w.heap.size, 0, none⟩))) (w.alloc (.cells #[.bool false, .slice none 0 0] 109)) :=
  ⟨w.heap.size, none, rfl, Nat.le_refl _, ⟨.slice none 0 0, heap_alloc_new _ _, ⟨rfl, rfl⟩, by simp⟩, (Kept.refl _ _).alloc _, by simp⟩
theorem new_word (w : World) (n : Int) (h0 : n ≠ 0) (h1 : n.natAbs < B64) :
    NewRes w n (.returned (.pointer (some ⟨w.heap.size + 1, 0, none⟩))) ((w.alloc (.cells #[.int .u64 ((n.natAbs : Nat) : Int)] 165)).alloc (.cells #[.bool (decide (n < 0)), .slice (some ⟨w.heap.size, 0, none⟩) 1 1] 109)) := by
  have hd := dig_one (n := n.natAbs) (by omega) h1
  refine ⟨w.heap.size + 1, some w.heap.size, rfl, by omega, ⟨.slice (some ⟨w.heap.size, 0, none⟩) 1 1, ?_, ?_, by simp⟩, ((Kept.refl _ _).alloc _).alloc _, by intro k hk; injection hk with hk; omega⟩
  · have := heap_alloc_new (w.alloc (.cells #[.int .u64 ((n.natAbs : Nat) : Int)] 165)) (.cells #[.bool (decide (n < 0)), .slice (some ⟨w.heap.size, 0, none⟩) 1 1] 109)
    simpa using this
  · refine ⟨#[.int .u64 ((n.natAbs : Nat) : Int)], by rw [hd]; rfl, ?_, by rw [hd]; simp, by simp, by simp, ?_⟩
    · rw [Below.heap_alloc _ _ _ (by simp)]
      exact heap_alloc_new _ _
    · rw [hd]
      intro i hi
      simp at hi
      subst hi
      rfl
set_option maxHeartbeats 400000 in
theorem NewInt_zero (w : World) : Calls Tryz.prog 58 #[.int .i64 0] w (NewRes w 0) := by
  have H := Lib.hid (new_zero w)
  go_enter Tryz.func58, Tryz.ntmps58
  go_wp2_with fail
  go_ret
  exact H.out
set_option maxHeartbeats 400000 in
theorem NewInt_pos (k : Nat) (h0 : 1 ≤ k) (h1 : k ≤ 9223372036854775807) (w : World) : Calls Tryz.prog 58 #[.int .i64 (k : Int)] w (NewRes w k) := by
  have H := Lib.hid (new_word w (k : Int) (by omega) (by unfold B64; omega))
  have a1 : ((k : Int) == 0) = false := beqF (by omega)
  have a2 : decide ((k : Int) < 0) = false := decF (by omega)
  rw [a2] at H
  simp only [Int.natAbs_natCast] at H
  go_enter Tryz.func58, Tryz.ntmps58
  go_wp2_with fail
  go_ret
  exact H.out
def sgn (n : Int) : Int := if n = 0 then 0 else if n < 0 then -1 else 1
set_option maxHeartbeats 400000 in
theorem Int_Sign (x : Nat) (n : Int) (b : Option Nat) (r : List Value) (T : TypeId) (w : World) (hx : IntAt w x n b r T) :
    Calls Tryz.prog 99 #[.pointer (some ⟨x, 0, none⟩)] w fun e w' => e = .returned (.int .i64 (sgn n)) ∧ w = w' := by
  obtain ⟨vx, hx1, hx2, hx3⟩ := hx
  obtain ⟨c0, c1, _, _⟩ := int_cells hx1
  by_cases h0 : n = 0
  · subst h0
    obtain ⟨a, c, rfl⟩ := zero_val hx2
    clear hx1 hx2
    have e : sgn 0 = 0 := rfl
    rw [e]
    go_enter Tryz.func99, Tryz.ntmps99
    go_wp2_with fail
    go_ret
    exact ⟨rfl, rfl⟩
  · obtain ⟨a, c, rfl⟩ := nat_slice hx2
    have hp := dig_len_pos (n := n.natAbs) (by omega)
    clear hx1 hx2
    have a1 : (((dig n.natAbs).length : Int) == 0) = false := beqF (by omega)
    generalize (dig n.natAbs).length = L at *
    by_cases hs : n < 0
    · have e : sgn n = -1 := by unfold sgn; rw [if_neg h0, if_pos hs]
      rw [e]
      have e2 : decide (n < 0) = true := decT hs
      rw [e2] at c0
      go_enter Tryz.func99, Tryz.ntmps99
      go_wp2_with fail
      go_ret
      exact ⟨rfl, rfl⟩
    · have e : sgn n = 1 := by unfold sgn; rw [if_neg h0, if_neg hs]
      rw [e]
      have e2 : decide (n < 0) = false := decF hs
      rw [e2] at c0
      go_enter Tryz.func99, Tryz.ntmps99
      go_wp2_with fail
      go_ret
      exact ⟨rfl, rfl⟩
def cmpZ (n m : Int) : Int := if n < m then -1 else if m < n then 1 else 0
theorem cmpZ_pos {n m : Int} (h1 : ¬ n < 0) (h2 : ¬ m < 0) : cmpN n.natAbs m.natAbs = cmpZ n m := by
  unfold cmpN cmpZ
  by_cases h : n < m
  · rw [if_pos (by omega), if_pos h]
  · rw [if_neg (by omega), if_neg h]
    by_cases h' : m < n
    · rw [if_pos (by omega), if_pos h']
    · rw [if_neg (by omega), if_neg h']
theorem cmpZ_neg {n m : Int} (h1 : n < 0) (h2 : m < 0) : -cmpN n.natAbs m.natAbs = cmpZ n m := by
  unfold cmpN cmpZ
  by_cases h : n < m
  · rw [if_neg (by omega), if_pos (by omega), if_pos h]
  · rw [if_neg h]
    by_cases h' : m < n
    · rw [if_pos (by omega), if_pos h']; rfl
    · rw [if_neg (by omega), if_neg (by omega), if_neg h']; rfl
theorem cmpN_three (n m : Nat) : cmpN n m = -1 ∨ cmpN n m = 0 ∨ cmpN n m = 1 := by
  unfold cmpN
  by_cases h : n < m
  · rw [if_pos h]; exact Or.inl rfl
  · rw [if_neg h]
    by_cases h' : m < n
    · rw [if_pos h']; exact Or.inr (Or.inr rfl)
    · rw [if_neg h']; exact Or.inr (Or.inl rfl)
set_option maxRecDepth 100000 in
set_option maxHeartbeats 800000 in
theorem Int_Cmp (x y : Nat) (n m : Int) (bx by_ : Option Nat) (rx ry : List Value) (Tx Ty : TypeId) (w : World) (hx : IntAt w x n bx rx Tx) (hy : IntAt w y m by_ ry Ty) (hne : x ≠ y) :
    Calls Tryz.prog 103 #[.pointer (some ⟨x, 0, none⟩), .pointer (some ⟨y, 0, none⟩)] w fun e w' => e = .returned (.int .i64 (cmpZ n m)) ∧ Drew w w' := by
  obtain ⟨vx, hx1, hx2, hx3⟩ := hx
  obtain ⟨vy, hy1, hy2, hy3⟩ := hy
  have hq := ptr_int_other hne hx1 hy1
  obtain ⟨cx0, cx1, _, _⟩ := int_cells hx1
  obtain ⟨cy0, cy1, _, _⟩ := int_cells hy1
  have HC := Lib.hid (fun nq => cmp_any vx vy bx by_ n.natAbs m.natAbs (w.drewN nq) (by exact hx2) (by exact hy2))
  clear hx1 hy1 hx2 hy2 hx3 hy3
  by_cases h1 : n < 0
  · rw [decT h1] at cx0
    by_cases h2 : m < 0
    · rw [decT h2] at cy0
      rw [← cmpZ_neg h1 h2]
      have h3 := cmpN_three n.natAbs m.natAbs
      clear h1 h2
      generalize cmpN n.natAbs m.natAbs = r at *
      have hr : IntKind.i64.wrap (-r) = -r := IntWalk.i64_in _ (by omega)
      go_enter Tryz.func103, Tryz.ntmps103
      go_wp2_with fail
      go_quiet (fail)
      go_wp2_with fail
      go_quiet ((go_at_call 142; exact quiet_add (HC.out _)))
      go_wp2_with fail
      go_ret
      exact ⟨rfl, by repeat (first | exact Drew.refl _ | refine Drew.step ?_ _)⟩
    · rw [decF h2] at cy0
      have e : cmpZ n m = -1 := by unfold cmpZ; rw [if_pos (by omega)]
      rw [e]
      clear h1 h2
      go_enter Tryz.func103, Tryz.ntmps103
      go_wp2_with fail
      go_quiet (fail)
      go_wp2_with fail
      go_ret
      exact ⟨rfl, by repeat (first | exact Drew.refl _ | refine Drew.step ?_ _)⟩
  · rw [decF h1] at cx0
    by_cases h2 : m < 0
    · rw [decT h2] at cy0
      have e : cmpZ n m = 1 := by unfold cmpZ; rw [if_neg (by omega), if_pos (by omega)]
      rw [e]
      clear h1 h2
      go_enter Tryz.func103, Tryz.ntmps103
      go_wp2_with fail
      go_quiet (fail)
      go_wp2_with fail
      go_ret
      exact ⟨rfl, by repeat (first | exact Drew.refl _ | refine Drew.step ?_ _)⟩
    · rw [decF h2] at cy0
      rw [← cmpZ_pos h1 h2]
      clear h1 h2
      generalize cmpN n.natAbs m.natAbs = r at *
      go_enter Tryz.func103, Tryz.ntmps103
      go_wp2_with fail
      go_quiet (fail)
      go_wp2_with fail
      go_quiet ((go_at_call 142; exact quiet_add (HC.out _)))
      go_wp2_with fail
      go_ret
      exact ⟨rfl, by repeat (first | exact Drew.refl _ | refine Drew.step ?_ _)⟩
end Go.Proofs.YtjebnpkebccffaaGreatDoor
