import Derived.Test.YtjebnpkebccffaaGreatDoorJQw
import Derived.Test.YtjebnpkebccffaaGreatDoorWLast
import Derived.BigQuiet
set_option linter.unusedSimpArgs false
set_option linter.unusedVariables false
set_option linter.unusedSectionVars false
namespace Go.Proofs.YtjebnpkebccffaaGreatDoor
open Go.RowKit
open Go.Proofs.YtjebnpkebccffaaGreatDoorW.PrintLast
/-! ### QuantityWrite (printed by qwrite.py) -/
def sgStr (n : Int) : ByteArray := if n = 1 then ⟨#[43]⟩ else if n = 2 then ⟨#[45]⟩ else ⟨#[]⟩
theorem sgStr_size (n : Int) : (sgStr n).size ≤ 1 := by
  unfold sgStr
  split
  · decide
  · split <;> decide
set_option maxRecDepth 100000 in
set_option maxHeartbeats 1000000 in
theorem quantitySign_any (n : Int) (w : World) (h0 : 0 ≤ n) (h2 : n ≤ 2) : Calls Tryz.prog 75 #[.int .i64 n] w fun e w' => e = .returned (.string (sgStr n)) ∧ Kept (fun _ => False) w w' := by
  have K := Lib.hid ((Kept.refl (fun _ => False) w).alloc (.cells #[.string ⟨#[]⟩, .string ⟨#[43]⟩, .string ⟨#[45]⟩] 9))
  have hn : n = 0 ∨ n = 1 ∨ n = 2 := by omega
  clear h0 h2
  rcases hn with rfl | rfl | rfl
  all_goals
    go_enter Tryz.func75, Tryz.ntmps75
    go_wp2_with fail
    go_ret
    exact ⟨rfl, K.out⟩
def decSuf : Nat → ByteArray
  | 0 => ⟨#[109]⟩
  | 1 => ⟨#[]⟩
  | 2 => ⟨#[107]⟩
  | 3 => ⟨#[77]⟩
  | 4 => ⟨#[71]⟩
  | 5 => ⟨#[84]⟩
  | 6 => ⟨#[80]⟩
  | 7 => ⟨#[69]⟩
  | _ => ⟨#[]⟩
def binSuf : Nat → ByteArray
  | 0 => ⟨#[75, 105]⟩
  | 1 => ⟨#[77, 105]⟩
  | 2 => ⟨#[71, 105]⟩
  | 3 => ⟨#[84, 105]⟩
  | 4 => ⟨#[80, 105]⟩
  | 5 => ⟨#[69, 105]⟩
  | _ => ⟨#[]⟩
def qbase (q : QW) : ByteArray := if q.dot = true then sgStr q.sign ++ q.num ++ (⟨#[46]⟩ ++ q.denom) else sgStr q.sign ++ q.num
def qwrite (q : QW) : ByteArray :=
  if q.kind = 2 then qbase q ++ decSuf (q.place + 1).toNat
  else if q.kind = 1 then qbase q ++ binSuf (q.place - 1).toNat
  else if q.upper = true then qbase q ++ ⟨#[69]⟩ ++ sgStr q.psign ++ q.power
  else qbase q ++ ⟨#[101]⟩ ++ sgStr q.psign ++ q.power
def WriteRes (w : World) (q : QW) (e : Ending) (w' : World) : Prop := e = .returned (.string (qwrite q)) ∧ Kept (fun _ => False) w w'
set_option maxRecDepth 100000 in
set_option maxHeartbeats 4000000 in
theorem QuantityWrite_any (q : QW) (hq : QRight q) (h1 : q.num.size ≤ 1000000 ∧ q.denom.size ≤ 1000000) (w : World) : Calls Tryz.prog 31 #[.agg q.cells] w (WriteRes w q) := by
  obtain ⟨-, -, -, -, hs0, hs2, hkinds⟩ := hq
  obtain ⟨sg, nm, dt, dn, kd, pl, up, ps, pw⟩ := q
  simp only at hs0 hs2 hkinds h1
  obtain ⟨z1, z2⟩ := h1
  have zs := sgStr_size sg
  have zp := sgStr_size ps
  have f1 : ¬ (9223372036854775807 < (sgStr sg).size + nm.size) := by omega
  simp only [QW.cells]
  have k0 : Kept (fun _ => False) w (w.alloc (.cells #[.int .i64 sg, .string nm, .bool dt, .string dn, .int .i64 kd, .int .i64 pl, .bool up, .int .i64 ps, .string pw] 23)) := (Kept.refl _ _).alloc _
  have hb := heap_alloc_new w (.cells #[.int .i64 sg, .string nm, .bool dt, .string dn, .int .i64 kd, .int .i64 pl, .bool up, .int .i64 ps, .string pw] 23)
  generalize hW : w.alloc (.cells #[.int .i64 sg, .string nm, .bool dt, .string dn, .int .i64 kd, .int .i64 pl, .bool up, .int .i64 ps, .string pw] 23) = W at *
  have hbd : W.drew.heap[w.heap.size]? = _ := hb
  obtain ⟨c0, c1, c2, c3, c4, c5, c6, c7, c8⟩ := cell9 hbd
  have HBd := Lib.hid hbd
  have KD := Lib.hid k0.drew
  clear k0 hb hbd
  go_enter Tryz.func31, Tryz.ntmps31
  go_wp2_with fail
  refine start_ (n := 7) (S := fun w' => w'.cell? ⟨w.heap.size, 0, none⟩ = some (.int .i64 sg) ∧ w'.cell? ⟨w.heap.size, 1, none⟩ = some (.string nm)) (ds := []) #[false, false, false, false, false, false, false] (by kernel_rfl) rfl rfl ⟨c0, c1⟩ (fun hHeld => ?_)
  refine pure_ (i := 0) (N := some 4) (v := ?_) (a' := ?_) #[true, false, false, false, false, false, false] rfl rfl (by kernel_rfl) (fun _ _ _ h => h) (Or.inl ⟨by rfl, ?_⟩) ?_ ?_
  rotate_left
  · intro w'
    go_simp
    with_reducible rfl
  rotate_left
  · simp only [Act.put, List.setIfInBounds_toArray, List.set_cons_zero, List.set_cons_succ, i64_w, i32_w]
    rfl
  refine pure_ (i := 3) (N := some 7) (v := ?_) (a' := ?_) #[true, false, false, true, false, false, false] rfl rfl (by kernel_rfl) (fun _ _ _ h => h) (Or.inl ⟨by rfl, ?_⟩) ?_ ?_
  rotate_left
  · intro w'
    go_simp
    with_reducible rfl
  rotate_left
  · simp only [Act.put, List.setIfInBounds_toArray, List.set_cons_zero, List.set_cons_succ, i64_w, i32_w]
    rfl
  refine take_ (i := 1) (N := some 5) (v := ?_) (a' := ?_) #[true, true, false, true, false, false, false] rfl rfl (by kernel_rfl) (fun _ _ _ h => h) (Or.inl ⟨by rfl, ?_⟩) hHeld ?_ ?_
  rotate_left
  · rintro w' ⟨s0, s1⟩
    go_simp
    with_reducible rfl
  rotate_left
  · simp only [Act.put, List.setIfInBounds_toArray, List.set_cons_zero, List.set_cons_succ, i64_w, i32_w]
    rfl
  refine take_ (i := 4) (N := some 8) (v := ?_) (a' := ?_) #[true, true, false, true, true, false, false] rfl rfl (by kernel_rfl) (fun _ _ _ h => h) (Or.inl ⟨by rfl, ?_⟩) hHeld ?_ ?_
  rotate_left
  · rintro w' ⟨s0, s1⟩
    go_simp
    with_reducible rfl
  rotate_left
  · simp only [Act.put, List.setIfInBounds_toArray, List.set_cons_zero, List.set_cons_succ, i64_w, i32_w]
    rfl
  refine one_ (i := 2) (N := some 6) #[true, true, true, true, true, false, false] rfl rfl (by kernel_rfl) (by decide) (fun K hK => ?_)
  refine goes_ Tryz.func75 (by kernel_rfl) rfl #[.int .i64 sg] (by rfl) rfl rfl (by simp only [List.map_toArray, List.map_cons, List.map_nil]; rfl) ?_
  with_reducible refine (quantitySign_any sg _ (by omega) (by omega)).mono ?_
  rintro e w9 ⟨rfl, hk⟩
  have G1 := Lib.hid (hk.at HBd.out (fun f => f))
  obtain ⟨r0, r1, r2, r3, r4, r5, r6, r7, r8⟩ := cell9 G1.out
  have K9 := Lib.hid (KD.out.same hk)
  clear hk
  refine ⟨_, rfl, ?_⟩
  refine hK.out _ _ ⟨r0, r1⟩ (fun hHeld => ?_)
  clear hK K
  refine norm_ (a' := ?_) ?_ ?_
  rotate_left
  · show Act.put _ (some 6) _ = _
    simp only [Act.put, List.setIfInBounds_toArray, List.set_cons_zero, List.set_cons_succ, i64_w, i32_w]
    rfl
  refine pure_ (i := 5) (N := some 9) (v := ?_) (a' := ?_) #[true, true, true, true, true, true, false] rfl rfl (by kernel_rfl) (fun _ _ _ h => h) (Or.inl ⟨by rfl, ?_⟩) ?_ ?_
  rotate_left
  · intro w'
    go_simp
    with_reducible rfl
  rotate_left
  · simp only [Act.put, List.setIfInBounds_toArray, List.set_cons_zero, List.set_cons_succ, i64_w, i32_w]
    rfl
  refine pure_ (i := 6) (N := some 3) (v := ?_) (a' := ?_) #[true, true, true, true, true, true, true] rfl rfl (by kernel_rfl) (fun _ _ _ h => h) (Or.inl ⟨by rfl, ?_⟩) ?_ ?_
  rotate_left
  · intro w'
    go_simp
    with_reducible rfl
  rotate_left
  · simp only [Act.put, List.setIfInBounds_toArray, List.set_cons_zero, List.set_cons_succ, i64_w, i32_w]
    rfl
  refine done_ (by kernel_rfl) ?_

  have HK2 := Lib.hid hkinds
  clear c0 c1 c2 c3 c4 c5 c6 c7 c8 r0 r1 r2 r3 r4 r5 r6 r7 r8 hW hkinds
  obtain ⟨d0, d1, d2, d3, d4, d5, d6, d7, d8⟩ := cell9 G1.out
  have hlt := heap_lt G1.out
  have hb9 : w9.drew.heap[w.heap.size]? = _ := G1.out
  obtain ⟨x0, x1, x2, x3, x4, x5, x6, x7, x8⟩ := cell9 hb9
  have G1d := Lib.hid hb9
  have K9d := Lib.hid K9.out.drew
  clear hb9
  cases dt
  all_goals
    rcases HK2.out with ⟨rfl, p1, p2⟩ | ⟨rfl, p1, p2⟩ | ⟨rfl, p1, p2, p3, p4, p5⟩
    · have hp : pl = -1 ∨ pl = 0 ∨ pl = 1 ∨ pl = 2 ∨ pl = 3 ∨ pl = 4 ∨ pl = 5 ∨ pl = 6 := by omega
      clear p1 p2 HK2
      rcases hp with rfl | rfl | rfl | rfl | rfl | rfl | rfl | rfl
      all_goals
        go_wp2_with fail
        go_ret
        exact ⟨rfl, K9.out.alloc _⟩
    · have hp : pl = 1 ∨ pl = 2 ∨ pl = 3 ∨ pl = 4 ∨ pl = 5 ∨ pl = 6 := by omega
      clear p1 p2 HK2
      rcases hp with rfl | rfl | rfl | rfl | rfl | rfl
      all_goals
        go_wp2_with fail
        go_ret
        exact ⟨rfl, K9.out.alloc _⟩
    · clear HK2
      cases up
      · go_wp2_with fail
        have f00 : ¬ (9223372036854775807 < (sgStr sg).size + nm.size + 1) := by omega
        have f01 : ¬ (9223372036854775807 < (sgStr sg).size + nm.size + 1 + (sgStr ps).size) := by omega
        have f02 : ¬ (9223372036854775807 < (sgStr sg).size + nm.size + 1 + (sgStr ps).size + pw.size) := by omega
        have f10 : ¬ (9223372036854775807 < (sgStr sg).size + nm.size + (1 + dn.size) + 1) := by omega
        have f11 : ¬ (9223372036854775807 < (sgStr sg).size + nm.size + (1 + dn.size) + 1 + (sgStr ps).size) := by omega
        have f12 : ¬ (9223372036854775807 < (sgStr sg).size + nm.size + (1 + dn.size) + 1 + (sgStr ps).size + pw.size) := by omega
        have f20 : ¬ (9223372036854775807 < (sgStr sg).size + nm.size + (dn.size + 1) + 1) := by omega
        have f21 : ¬ (9223372036854775807 < (sgStr sg).size + nm.size + (dn.size + 1) + 1 + (sgStr ps).size) := by omega
        have f22 : ¬ (9223372036854775807 < (sgStr sg).size + nm.size + (dn.size + 1) + 1 + (sgStr ps).size + pw.size) := by omega
        refine start_ (n := 10) (S := fun w' => w'.cell? ⟨w.heap.size, 7, none⟩ = some (.int .i64 ps) ∧ w'.cell? ⟨w.heap.size, 8, none⟩ = some (.string pw)) (ds := []) #[false, false, false, false, false, false, false, false, false, false] (by kernel_rfl) rfl rfl ⟨x7, x8⟩ (fun hHeld => ?_)
        refine pure_ (i := 0) (N := some 50) (v := ?_) (a' := ?_) #[true, false, false, false, false, false, false, false, false, false] rfl rfl (by kernel_rfl) (fun _ _ _ h => h) (Or.inl ⟨by rfl, ?_⟩) ?_ ?_
        rotate_left
        · intro w'
          go_simp
          with_reducible rfl
        rotate_left
        · simp only [Act.put, List.setIfInBounds_toArray, List.set_cons_zero, List.set_cons_succ, i64_w, i32_w]
          rfl
        refine pure_ (i := 1) (N := some 51) (v := ?_) (a' := ?_) #[true, true, false, false, false, false, false, false, false, false] rfl rfl (by kernel_rfl) (fun _ _ _ h => h) (Or.inl ⟨by rfl, ?_⟩) ?_ ?_
        rotate_left
        · intro w'
          go_simp
          with_reducible rfl
        rotate_left
        · simp only [Act.put, List.setIfInBounds_toArray, List.set_cons_zero, List.set_cons_succ, i64_w, i32_w]
          rfl
        refine pure_ (i := 2) (N := some 52) (v := ?_) (a' := ?_) #[true, true, true, false, false, false, false, false, false, false] rfl rfl (by kernel_rfl) (fun _ _ _ h => h) (Or.inl ⟨by rfl, ?_⟩) ?_ ?_
        rotate_left
        · intro w'
          go_simp
          with_reducible rfl
        rotate_left
        · simp only [Act.put, List.setIfInBounds_toArray, List.set_cons_zero, List.set_cons_succ, i64_w, i32_w]
          rfl
        refine pure_ (i := 6) (N := some 56) (v := ?_) (a' := ?_) #[true, true, true, false, false, false, true, false, false, false] rfl rfl (by kernel_rfl) (fun _ _ _ h => h) (Or.inl ⟨by rfl, ?_⟩) ?_ ?_
        rotate_left
        · intro w'
          go_simp
          with_reducible rfl
        rotate_left
        · simp only [Act.put, List.setIfInBounds_toArray, List.set_cons_zero, List.set_cons_succ, i64_w, i32_w]
          rfl
        refine take_ (i := 3) (N := some 53) (v := ?_) (a' := ?_) #[true, true, true, true, false, false, true, false, false, false] rfl rfl (by kernel_rfl) (fun _ _ _ h => h) (Or.inl ⟨by rfl, ?_⟩) hHeld ?_ ?_
        rotate_left
        · rintro w' ⟨s0, s1⟩
          go_simp
          with_reducible rfl
        rotate_left
        · simp only [Act.put, List.setIfInBounds_toArray, List.set_cons_zero, List.set_cons_succ, i64_w, i32_w]
          rfl
        refine take_ (i := 7) (N := some 57) (v := ?_) (a' := ?_) #[true, true, true, true, false, false, true, true, false, false] rfl rfl (by kernel_rfl) (fun _ _ _ h => h) (Or.inl ⟨by rfl, ?_⟩) hHeld ?_ ?_
        rotate_left
        · rintro w' ⟨s0, s1⟩
          go_simp
          with_reducible rfl
        rotate_left
        · simp only [Act.put, List.setIfInBounds_toArray, List.set_cons_zero, List.set_cons_succ, i64_w, i32_w]
          rfl
        refine one_ (i := 4) (N := some 54) #[true, true, true, true, true, false, true, true, false, false] rfl rfl (by kernel_rfl) (by decide) (fun K hK => ?_)
        refine goes_ Tryz.func75 (by kernel_rfl) rfl #[.int .i64 ps] (by rfl) rfl rfl (by simp only [List.map_toArray, List.map_cons, List.map_nil]; rfl) ?_
        with_reducible refine (quantitySign_any ps _ (by omega) (by omega)).mono ?_
        rintro e w10 ⟨rfl, hk⟩
        have G2 := Lib.hid (hk.at G1d.out (fun f => f))
        obtain ⟨r0, r1, r2, r3, r4, r5, r6, r7, r8⟩ := cell9 G2.out
        have K10 := Lib.hid (K9d.out.same hk)
        clear hk
        refine ⟨_, rfl, ?_⟩
        refine hK.out _ _ ⟨r7, r8⟩ (fun hHeld => ?_)
        clear hK K
        refine norm_ (a' := ?_) ?_ ?_
        rotate_left
        · show Act.put _ (some 54) _ = _
          simp only [Act.put, List.setIfInBounds_toArray, List.set_cons_zero, List.set_cons_succ, i64_w, i32_w]
          rfl
        refine pure_ (i := 5) (N := some 55) (v := ?_) (a' := ?_) #[true, true, true, true, true, true, true, true, false, false] rfl rfl (by kernel_rfl) (fun _ _ _ h => h) (Or.inl ⟨by rfl, ?_⟩) ?_ ?_
        rotate_left
        · intro w'
          go_simp
          with_reducible rfl
        rotate_left
        · simp only [Act.put, List.setIfInBounds_toArray, List.set_cons_zero, List.set_cons_succ, i64_w, i32_w]
          rfl
        refine pure_ (i := 8) (N := some 58) (v := ?_) (a' := ?_) #[true, true, true, true, true, true, true, true, true, false] rfl rfl (by kernel_rfl) (fun _ _ _ h => h) (Or.inl ⟨by rfl, ?_⟩) ?_ ?_
        rotate_left
        · intro w'
          go_simp
          with_reducible rfl
        rotate_left
        · simp only [Act.put, List.setIfInBounds_toArray, List.set_cons_zero, List.set_cons_succ, i64_w, i32_w]
          rfl
        refine pure_ (i := 9) (N := some 2) (v := ?_) (a' := ?_) #[true, true, true, true, true, true, true, true, true, true] rfl rfl (by kernel_rfl) (fun _ _ _ h => h) (Or.inl ⟨by rfl, ?_⟩) ?_ ?_
        rotate_left
        · intro w'
          go_simp
          with_reducible rfl
        rotate_left
        · simp only [Act.put, List.setIfInBounds_toArray, List.set_cons_zero, List.set_cons_succ, i64_w, i32_w]
          rfl
        refine done_ (by kernel_rfl) ?_

        go_wp2_with fail
        go_ret
        exact ⟨rfl, K10.out⟩
      · go_wp2_with fail
        have f00 : ¬ (9223372036854775807 < (sgStr sg).size + nm.size + 1) := by omega
        have f01 : ¬ (9223372036854775807 < (sgStr sg).size + nm.size + 1 + (sgStr ps).size) := by omega
        have f02 : ¬ (9223372036854775807 < (sgStr sg).size + nm.size + 1 + (sgStr ps).size + pw.size) := by omega
        have f10 : ¬ (9223372036854775807 < (sgStr sg).size + nm.size + (1 + dn.size) + 1) := by omega
        have f11 : ¬ (9223372036854775807 < (sgStr sg).size + nm.size + (1 + dn.size) + 1 + (sgStr ps).size) := by omega
        have f12 : ¬ (9223372036854775807 < (sgStr sg).size + nm.size + (1 + dn.size) + 1 + (sgStr ps).size + pw.size) := by omega
        have f20 : ¬ (9223372036854775807 < (sgStr sg).size + nm.size + (dn.size + 1) + 1) := by omega
        have f21 : ¬ (9223372036854775807 < (sgStr sg).size + nm.size + (dn.size + 1) + 1 + (sgStr ps).size) := by omega
        have f22 : ¬ (9223372036854775807 < (sgStr sg).size + nm.size + (dn.size + 1) + 1 + (sgStr ps).size + pw.size) := by omega
        refine start_ (n := 10) (S := fun w' => w'.cell? ⟨w.heap.size, 7, none⟩ = some (.int .i64 ps) ∧ w'.cell? ⟨w.heap.size, 8, none⟩ = some (.string pw)) (ds := []) #[false, false, false, false, false, false, false, false, false, false] (by kernel_rfl) rfl rfl ⟨x7, x8⟩ (fun hHeld => ?_)
        refine pure_ (i := 0) (N := some 41) (v := ?_) (a' := ?_) #[true, false, false, false, false, false, false, false, false, false] rfl rfl (by kernel_rfl) (fun _ _ _ h => h) (Or.inl ⟨by rfl, ?_⟩) ?_ ?_
        rotate_left
        · intro w'
          go_simp
          with_reducible rfl
        rotate_left
        · simp only [Act.put, List.setIfInBounds_toArray, List.set_cons_zero, List.set_cons_succ, i64_w, i32_w]
          rfl
        refine pure_ (i := 1) (N := some 42) (v := ?_) (a' := ?_) #[true, true, false, false, false, false, false, false, false, false] rfl rfl (by kernel_rfl) (fun _ _ _ h => h) (Or.inl ⟨by rfl, ?_⟩) ?_ ?_
        rotate_left
        · intro w'
          go_simp
          with_reducible rfl
        rotate_left
        · simp only [Act.put, List.setIfInBounds_toArray, List.set_cons_zero, List.set_cons_succ, i64_w, i32_w]
          rfl
        refine pure_ (i := 2) (N := some 43) (v := ?_) (a' := ?_) #[true, true, true, false, false, false, false, false, false, false] rfl rfl (by kernel_rfl) (fun _ _ _ h => h) (Or.inl ⟨by rfl, ?_⟩) ?_ ?_
        rotate_left
        · intro w'
          go_simp
          with_reducible rfl
        rotate_left
        · simp only [Act.put, List.setIfInBounds_toArray, List.set_cons_zero, List.set_cons_succ, i64_w, i32_w]
          rfl
        refine pure_ (i := 6) (N := some 47) (v := ?_) (a' := ?_) #[true, true, true, false, false, false, true, false, false, false] rfl rfl (by kernel_rfl) (fun _ _ _ h => h) (Or.inl ⟨by rfl, ?_⟩) ?_ ?_
        rotate_left
        · intro w'
          go_simp
          with_reducible rfl
        rotate_left
        · simp only [Act.put, List.setIfInBounds_toArray, List.set_cons_zero, List.set_cons_succ, i64_w, i32_w]
          rfl
        refine take_ (i := 3) (N := some 44) (v := ?_) (a' := ?_) #[true, true, true, true, false, false, true, false, false, false] rfl rfl (by kernel_rfl) (fun _ _ _ h => h) (Or.inl ⟨by rfl, ?_⟩) hHeld ?_ ?_
        rotate_left
        · rintro w' ⟨s0, s1⟩
          go_simp
          with_reducible rfl
        rotate_left
        · simp only [Act.put, List.setIfInBounds_toArray, List.set_cons_zero, List.set_cons_succ, i64_w, i32_w]
          rfl
        refine take_ (i := 7) (N := some 48) (v := ?_) (a' := ?_) #[true, true, true, true, false, false, true, true, false, false] rfl rfl (by kernel_rfl) (fun _ _ _ h => h) (Or.inl ⟨by rfl, ?_⟩) hHeld ?_ ?_
        rotate_left
        · rintro w' ⟨s0, s1⟩
          go_simp
          with_reducible rfl
        rotate_left
        · simp only [Act.put, List.setIfInBounds_toArray, List.set_cons_zero, List.set_cons_succ, i64_w, i32_w]
          rfl
        refine one_ (i := 4) (N := some 45) #[true, true, true, true, true, false, true, true, false, false] rfl rfl (by kernel_rfl) (by decide) (fun K hK => ?_)
        refine goes_ Tryz.func75 (by kernel_rfl) rfl #[.int .i64 ps] (by rfl) rfl rfl (by simp only [List.map_toArray, List.map_cons, List.map_nil]; rfl) ?_
        with_reducible refine (quantitySign_any ps _ (by omega) (by omega)).mono ?_
        rintro e w10 ⟨rfl, hk⟩
        have G2 := Lib.hid (hk.at G1d.out (fun f => f))
        obtain ⟨r0, r1, r2, r3, r4, r5, r6, r7, r8⟩ := cell9 G2.out
        have K10 := Lib.hid (K9d.out.same hk)
        clear hk
        refine ⟨_, rfl, ?_⟩
        refine hK.out _ _ ⟨r7, r8⟩ (fun hHeld => ?_)
        clear hK K
        refine norm_ (a' := ?_) ?_ ?_
        rotate_left
        · show Act.put _ (some 45) _ = _
          simp only [Act.put, List.setIfInBounds_toArray, List.set_cons_zero, List.set_cons_succ, i64_w, i32_w]
          rfl
        refine pure_ (i := 5) (N := some 46) (v := ?_) (a' := ?_) #[true, true, true, true, true, true, true, true, false, false] rfl rfl (by kernel_rfl) (fun _ _ _ h => h) (Or.inl ⟨by rfl, ?_⟩) ?_ ?_
        rotate_left
        · intro w'
          go_simp
          with_reducible rfl
        rotate_left
        · simp only [Act.put, List.setIfInBounds_toArray, List.set_cons_zero, List.set_cons_succ, i64_w, i32_w]
          rfl
        refine pure_ (i := 8) (N := some 49) (v := ?_) (a' := ?_) #[true, true, true, true, true, true, true, true, true, false] rfl rfl (by kernel_rfl) (fun _ _ _ h => h) (Or.inl ⟨by rfl, ?_⟩) ?_ ?_
        rotate_left
        · intro w'
          go_simp
          with_reducible rfl
        rotate_left
        · simp only [Act.put, List.setIfInBounds_toArray, List.set_cons_zero, List.set_cons_succ, i64_w, i32_w]
          rfl
        refine pure_ (i := 9) (N := some 2) (v := ?_) (a' := ?_) #[true, true, true, true, true, true, true, true, true, true] rfl rfl (by kernel_rfl) (fun _ _ _ h => h) (Or.inl ⟨by rfl, ?_⟩) ?_ ?_
        rotate_left
        · intro w'
          go_simp
          with_reducible rfl
        rotate_left
        · simp only [Act.put, List.setIfInBounds_toArray, List.set_cons_zero, List.set_cons_succ, i64_w, i32_w]
          rfl
        refine done_ (by kernel_rfl) ?_

        go_wp2_with fail
        go_ret
        exact ⟨rfl, K10.out⟩
end Go.Proofs.YtjebnpkebccffaaGreatDoor
namespace Go.Proofs.YtjebnpkebccffaaGreatDoor
/-! ### A word with a suffix, and a k behind it, is no quantity -/
theorem toList_app (a b : ByteArray) : (a ++ b).data.toList = a.data.toList ++ b.data.toList := by
  rw [ByteArray.data_append, Array.toList_append]
def dnL (q : QW) : List UInt8 := if q.dot = true then 46 :: q.denom.data.toList else []
theorem qbase_list (q : QW) : (qbase q).data.toList = (sgStr q.sign).data.toList ++ q.num.data.toList ++ dnL q := by
  unfold qbase dnL
  cases q.dot
  · rw [if_neg (by decide), if_neg (by decide), toList_app, List.append_nil]
  · rw [if_pos rfl, if_pos rfl, toList_app, toList_app, toList_app]
    rfl
theorem sgStr_list (n : Int) : (sgStr n).data.toList = [] ∨ (sgStr n).data.toList = [43] ∨ (sgStr n).data.toList = [45] := by
  unfold sgStr
  split
  · exact Or.inr (Or.inl rfl)
  · split
    · exact Or.inr (Or.inr rfl)
    · exact Or.inl rfl
theorem allDg_list {s : ByteArray} (h : allDg s = true) : ∀ x ∈ s.data.toList, isDg x.toNat = true := by
  unfold allDg at h
  rwa [List.all_eq_true] at h
/-- The suffixes with a k behind them. -/
def badS : List ByteArray := [⟨#[109, 107]⟩, ⟨#[107, 107]⟩, ⟨#[77, 107]⟩, ⟨#[71, 107]⟩, ⟨#[84, 107]⟩, ⟨#[80, 107]⟩, ⟨#[69, 107]⟩, ⟨#[75, 105, 107]⟩, ⟨#[77, 105, 107]⟩, ⟨#[71, 105, 107]⟩, ⟨#[84, 105, 107]⟩, ⟨#[80, 105, 107]⟩, ⟨#[69, 105, 107]⟩]
def kStr : ByteArray := ⟨#[107]⟩
theorem word_of {q : QW} (hq : QRight q) {suf : ByteArray} (hs : ∃ c r, suf.data.toList = c :: r ∧ isSf c.toNat = true) : Word (qbase q ++ suf) (sgStr q.sign).data.toList q.num.data.toList (dnL q) suf.data.toList where
  whole := by rw [toList_app, qbase_list]
  sign := sgStr_list _
  digs := allDg_list hq.num
  frac := by
    unfold dnL
    split
    · exact Or.inr ⟨_, rfl, allDg_list hq.denom⟩
    · exact Or.inl rfl
  suff := hs
theorem all_of {l : List UInt8} (h : l.all (fun x => isSf x.toNat) = true) : ∀ x ∈ l, isSf x.toNat = true := by rwa [List.all_eq_true] at h
theorem bad_list {q : QW} (hq : QRight q) (suf : ByteArray) (hs : ∃ c r, suf.data.toList = c :: r ∧ isSf c.toNat = true) (hall : suf.data.toList.all (fun x => isSf x.toNat) = true) (hb : suf ∈ badS) :
    ∃ p v n d f, pq (qbase q ++ suf) = ⟨p, v, n, d, f, true⟩ ∧ f ∈ badS := by
  have W := word_of hq hs
  refine ⟨_, _, _, _, _, (pq_word W).trans (tail_word W (all_of hall) _ _ _), ?_⟩
  have e : (⟨suf.data.toList.toArray⟩ : ByteArray) = suf := by
    obtain ⟨a⟩ := suf
    rfl
  rw [e]
  exact hb
theorem in_bad {s : ByteArray} (h : badS.any (fun t => decide (t = s)) = true) : s ∈ badS := by
  rw [List.any_eq_true] at h
  obtain ⟨t, ht, e⟩ := h
  have := of_decide_eq_true e
  rw [← this]
  exact ht
theorem strange_word {q : QW} (hq : QRight q) (hp : q.kind ≠ 2 ∨ q.place ≠ 0) :
    (pq (qwrite q ++ kStr)).ok = false ∨ ∃ p v n d f, pq (qwrite q ++ kStr) = ⟨p, v, n, d, f, true⟩ ∧ f ∈ badS := by
  rcases hq.kinds with ⟨hk, h1, h2⟩ | ⟨hk, h1, h2⟩ | ⟨hk, h1, h2, h3, h4, h5⟩
  · have hpl : q.place = -1 ∨ q.place = 1 ∨ q.place = 2 ∨ q.place = 3 ∨ q.place = 4 ∨ q.place = 5 ∨ q.place = 6 := by omega
    refine Or.inr ?_
    unfold qwrite
    rw [if_pos hk, ByteArray.append_assoc]
    rcases hpl with h | h | h | h | h | h | h
    all_goals
      rw [h]
      refine bad_list hq _ ⟨_, _, rfl, by decide⟩ (by decide) (in_bad (by decide))
  · have hpl : q.place = 1 ∨ q.place = 2 ∨ q.place = 3 ∨ q.place = 4 ∨ q.place = 5 ∨ q.place = 6 := by omega
    refine Or.inr ?_
    unfold qwrite
    rw [if_neg (by omega), if_pos hk, ByteArray.append_assoc]
    rcases hpl with h | h | h | h | h | h
    all_goals
      rw [h]
      refine bad_list hq _ ⟨_, _, rfl, by decide⟩ (by decide) (in_bad (by decide))
  · refine Or.inl ?_
    have key : ∀ c : UInt8, isSf c.toNat = true → (pq (qbase q ++ ⟨#[c]⟩ ++ sgStr q.psign ++ q.power ++ kStr)).ok = false := by
      intro c hc
      have e : qbase q ++ ⟨#[c]⟩ ++ sgStr q.psign ++ q.power ++ kStr = qbase q ++ (⟨#[c]⟩ ++ sgStr q.psign ++ q.power ++ kStr) := by
        simp only [ByteArray.append_assoc]
      have el : (⟨#[c]⟩ ++ sgStr q.psign ++ q.power ++ kStr : ByteArray).data.toList = c :: ((sgStr q.psign).data.toList ++ (q.power.data.toList ++ [107])) := by
        rw [toList_app, toList_app, toList_app]
        simp [kStr]
      have W := word_of (q := q) hq (suf := ⟨#[c]⟩ ++ sgStr q.psign ++ q.power ++ kStr) ⟨c, _, el, hc⟩
      rw [e, pq_word W]
      rw [el] at W
      refine tail_bad W ?_ (allDg_list h1) (by decide) _ _ _
      rcases sgStr_list q.psign with h | h | h
      · refine Or.inl ⟨h, fun hn => ?_⟩
        have hz : q.power.data.toList.length = q.power.size := by simp
        rw [hn] at hz
        simp at hz
        omega
      · exact Or.inr (Or.inl h)
      · exact Or.inr (Or.inr h)
    unfold qwrite
    rw [if_neg (by omega), if_neg (by omega)]
    cases hu : q.upper
    · rw [if_neg (by decide)]
      exact key 101 (by decide)
    · rw [if_pos rfl]
      exact key 69 (by decide)
end Go.Proofs.YtjebnpkebccffaaGreatDoor
