import Derived.Test.YtjebnpkebccffaaGreatDoorKInt
import Derived.Test.YtjebnpkebccffaaGreatDoorKMul
import Derived.Test.YtjebnpkebccffaaGreatDoorKIntc
set_option linter.unusedSimpArgs false
set_option linter.unusedVariables false
set_option linter.unusedSectionVars false
namespace Go.Proofs.YtjebnpkebccffaaGreatDoor
open Go.RowKit
def vL (S C : Nat → Nat → Nat → Nat) : List (Nat × Nat) → Nat → List Nat
  | [], _ => []
  | p :: l, c => S p.1 p.2 c :: vL S C l (C p.1 p.2 c)
def vC (C : Nat → Nat → Nat → Nat) : List (Nat × Nat) → Nat → Nat
  | [], c => c
  | p :: l, c => vC C l (C p.1 p.2 c)
theorem vL_len (S C : Nat → Nat → Nat → Nat) (l : List (Nat × Nat)) (c : Nat) : (vL S C l c).length = l.length := by
  induction l generalizing c with
  | nil => rfl
  | cons x l ih => simp [vL, ih]
theorem vC_snoc (C : Nat → Nat → Nat → Nat) (l : List (Nat × Nat)) (p : Nat × Nat) (c : Nat) : vC C (l ++ [p]) c = C p.1 p.2 (vC C l c) := by
  induction l generalizing c with
  | nil => rfl
  | cons x l ih => simp [vC, ih]
theorem vL_snoc (S C : Nat → Nat → Nat → Nat) (l : List (Nat × Nat)) (p : Nat × Nat) (c : Nat) : vL S C (l ++ [p]) c = vL S C l c ++ [S p.1 p.2 (vC C l c)] := by
  induction l generalizing c with
  | nil => rfl
  | cons x l ih => simp [vL, vC, ih]
theorem take_succ_pair (l : List (Nat × Nat)) (j : Nat) (h : j < l.length) : l.take (j + 1) = l.take j ++ [((l.map (·.1)).getD j 0, (l.map (·.2)).getD j 0)] := by
  rw [List.take_succ_eq_append_getElem h]
  congr 1
  simp [List.getD, h]
theorem vC_le {C : Nat → Nat → Nat → Nat} (l : List (Nat × Nat)) (hC : ∀ p ∈ l, ∀ c, c ≤ 1 → C p.1 p.2 c ≤ 1) : ∀ c, c ≤ 1 → vC C l c ≤ 1 := by
  induction l with
  | nil => intro c h; exact h
  | cons x l ih => intro c h; exact ih (fun p hp => hC p (List.mem_cons_of_mem _ hp)) _ (hC x (List.mem_cons_self ..) c h)
theorem vL_lt {S C : Nat → Nat → Nat → Nat} (hS : ∀ x y c, S x y c < B64) (l : List (Nat × Nat)) (c : Nat) : ∀ x ∈ vL S C l c, x < B64 := by
  induction l generalizing c with
  | nil => simp [vL]
  | cons x l ih =>
    intro z hz
    rcases List.mem_cons.1 hz with h | h
    · subst h; exact hS _ _ _
    · exact ih _ z h
theorem add_val (l : List (Nat × Nat)) (c : Nat) : val (vL adS adC l c) + B64 ^ l.length * vC adC l c = val (l.map (·.1)) + val (l.map (·.2)) + c := by
  induction l generalizing c with
  | nil => simp [vL, vC, val]
  | cons x l ih =>
    have h1 := ih (adC x.1 x.2 c)
    have h2 := ad_val x.1 x.2 c
    simp only [vL, vC, val_cons, List.map_cons, List.length_cons, Nat.pow_succ]
    have h3 : B64 * (val (vL adS adC l (adC x.1 x.2 c)) + B64 ^ l.length * vC adC l (adC x.1 x.2 c)) = B64 * (val (l.map (·.1)) + val (l.map (·.2)) + adC x.1 x.2 c) := by rw [h1]
    rw [Nat.mul_add, Nat.mul_add, Nat.mul_add] at h3
    rw [Nat.mul_comm (B64 ^ l.length) B64, Nat.mul_assoc B64 (B64 ^ l.length)]
    omega
theorem sub_val (l : List (Nat × Nat)) (hl : ∀ p ∈ l, p.1 < B64 ∧ p.2 < B64) (c : Nat) (hc : c ≤ 1) : val (vL sbD sbB l c) + val (l.map (·.2)) + c = val (l.map (·.1)) + B64 ^ l.length * vC sbB l c := by
  induction l generalizing c with
  | nil => simp [vL, vC, val]
  | cons x l ih =>
    obtain ⟨a1, a2⟩ := hl x (List.mem_cons_self ..)
    have h1 := ih (fun p hp => hl p (List.mem_cons_of_mem _ hp)) (sbB x.1 x.2 c) (sbB_le _ _ _)
    have h2 := sb_val a1 a2 hc
    simp only [vL, vC, val_cons, List.map_cons, List.length_cons, Nat.pow_succ]
    have h3 : B64 * (val (vL sbD sbB l (sbB x.1 x.2 c)) + val (l.map (·.2)) + sbB x.1 x.2 c) = B64 * (val (l.map (·.1)) + B64 ^ l.length * vC sbB l (sbB x.1 x.2 c)) := by rw [h1]
    rw [Nat.mul_add, Nat.mul_add, Nat.mul_add] at h3
    rw [Nat.mul_comm (B64 ^ l.length) B64, Nat.mul_assoc B64 (B64 ^ l.length)]
    omega
set_option maxHeartbeats 2000000 in
theorem addVV_g_any (zb zo zc xb xo xc yb yo yc m : Nat) (ps : List (Nat × Nat)) (cz cx cy : Array Value) (Tz Tx Ty : TypeId) (w : World)
    (hm : ps.length = m) (hm1 : m ≤ 1000000) (hps : ∀ p ∈ ps, p.1 < B64 ∧ p.2 < B64)
    (hz : w.heap[zb]? = some (.cells cz Tz (0, 0))) (hzo : zo + m ≤ cz.size) (hx : w.heap[xb]? = some (.cells cx Tx (0, 0))) (hxc : Has cx xo (ps.map (·.1))) (hsx : zb = xb → zo = xo)
    (hy : w.heap[yb]? = some (.cells cy Ty (0, 0))) (hyc : Has cy yo (ps.map (·.2))) (hsy : zb = yb → zo = yo) :
    Calls Tryz.prog 208 #[.slice (some ⟨zb, zo, none⟩) m zc, .slice (some ⟨xb, xo, none⟩) m xc, .slice (some ⟨yb, yo, none⟩) m yc] w fun e w' =>
      e = .returned (.int .u64 ((vC adC ps 0 : Nat) : Int)) ∧ Drew (putWords w zb zo (vL adS adC ps 0)) w' := by
  have HM := Lib.hid hm
  have HZ := Lib.hid hz
  have HX := Lib.hid hx
  have HY := Lib.hid hy
  have HSX := Lib.hid hsx
  have HSY := Lib.hid hsy
  have HXC := Lib.hid hxc
  have HYC := Lib.hid hyc
  have HPS := Lib.hid hps
  clear hm hz hx hy hsx hsy hxc hyc hps
  go_enter Tryz.func208, Tryz.ntmps208
  go_wp2_with fail
  go_loopw [6, 25] (fun c k wr => ∃ j : Nat, j ≤ m ∧ k = .int .i64 j ∧ c = .int .u64 ((vC adC (ps.take j) 0 : Nat) : Int) ∧ Drew (putWords w zb zo (vL adS adC (ps.take j) 0)) wr) (fun _ k _ => m - (intOf k).toNat)
  case atStart => exact ⟨0, Nat.zero_le _, rfl, rfl, Drew.refl _⟩
  case round =>
    obtain ⟨j, hj, rfl, rfl, nd, hwr⟩ := hrel
    have HW := Lib.hid hwr
    clear hwr
    by_cases hlt : j < m
    · have hcc : vC adC (ps.take j) 0 ≤ 1 := vC_le _ (fun p hp c hc => adC_le (HPS.out p (List.mem_of_mem_take hp)).1 (HPS.out p (List.mem_of_mem_take hp)).2 hc) 0 (by omega)
      have hlen : (vL adS adC (ps.take j) 0).length = j := by rw [vL_len, List.length_take, HM.out]; omega
      have hl1 : (ps.map (·.1)).length = m := by rw [List.length_map, HM.out]
      have hl2 : (ps.map (·.2)).length = m := by rw [List.length_map, HM.out]
      have c1 : wr.cell? ⟨xb, xo + j, none⟩ = some (.int .u64 (((ps.map (·.1)).getD j 0 : Nat) : Int)) := by
        rw [HW.out]
        exact putWords_reads HZ.out HX.out HXC.out j (by rw [hl1]; exact hlt) (fun h => Or.inl (by rw [hlen]; have := HSX.out h; omega))
      have c2 : wr.cell? ⟨yb, yo + j, none⟩ = some (.int .u64 (((ps.map (·.2)).getD j 0 : Nat) : Int)) := by
        rw [HW.out]
        exact putWords_reads HZ.out HY.out HYC.out j (by rw [hl2]; exact hlt) (fun h => Or.inl (by rw [hlen]; have := HSY.out h; omega))
      have h3 := putWords_next (l := vL adS adC (ps.take j) 0) HZ.out j hlen (show zo + j < cz.size by omega)
      have h4 : (∃ u, wr.cell? ⟨zb, zo + j, none⟩ = some u) ∧ wr.frozen? ⟨zb, zo + j, none⟩ = false := by rw [HW.out]; exact h3
      obtain ⟨⟨u, c3⟩, c4⟩ := h4
      have fin : ∀ nq, Drew (putWords w zb zo (vL adS adC (ps.take (j + 1)) 0)) ((wr.drewN nq).setCell ⟨zb, zo + j, none⟩ (.int .u64 ((adS ((ps.map (·.1)).getD j 0) ((ps.map (·.2)).getD j 0) (vC adC (ps.take j) 0) : Nat) : Int))) := by
        intro nq
        rw [take_succ_pair _ _ (by rw [HM.out]; exact hlt), vL_snoc, putWords_snoc, hlen, HW.out, World.drewN_drewN]
        exact ⟨_, rfl⟩
      have finc : vC adC (ps.take (j + 1)) 0 = adC ((ps.map (·.1)).getD j 0) ((ps.map (·.2)).getD j 0) (vC adC (ps.take j) 0) := by
        rw [take_succ_pair _ _ (by rw [HM.out]; exact hlt), vC_snoc]
      have FIN := Lib.hid fin
      have FINC := Lib.hid finc
      clear fin finc hlen h3 hl1 hl2 HW
      generalize (ps.map (·.1)).getD j 0 = xj at *
      generalize (ps.map (·.2)).getD j 0 = yj at *
      generalize vC adC (ps.take j) 0 = cj at *
      have HB := Lib.hid (fun w => bits_Add xj yj cj hcc w)
      have HBQ : Hid (∀ n, Calls Tryz.prog 209 #[.int .u64 (xj : Int), .int .u64 (yj : Int), .int .u64 (cj : Int)] (wr.drewN n) fun e w' => e = .returned (.tuple #[.int .u64 ((adS xj yj cj : Nat) : Int), .int .u64 ((adC xj yj cj : Nat) : Int)]) ∧ Drew (wr.drewN n) w') := fun n => (HB.out _).mono (fun e w' h => ⟨h.1, by rw [← h.2]; exact Drew.refl _⟩)
      go_wp2_with fail
      go_quiet ((go_at_call 209; first | exact quiet_add (HBQ.out _) | exact quiet_one (HBQ.out _)))
      go_wp2_with fail
      go_roundw
      case rel => exact ⟨j + 1, by omega, by go_num, by rw [FINC.out], FIN.out _⟩
      case measure => simp [intOf]; omega
    · have : j = m := by omega
      subst this
      go_wp2_with fail
      go_ret
      refine ⟨ret_u64 (by rw [List.take_of_length_le (by rw [HM.out]; exact Nat.le_refl _)]), ?_⟩
      rw [HW.out, List.take_of_length_le (by rw [HM.out]; exact Nat.le_refl _)]
      exact ⟨_, rfl⟩
set_option maxHeartbeats 400000 in
theorem addVV_any (zb zo zc xb xo xc yb yo yc m : Nat) (ps : List (Nat × Nat)) (cz cx cy : Array Value) (Tz Tx Ty : TypeId) (w : World)
    (hm : ps.length = m) (hm1 : m ≤ 1000000) (hps : ∀ p ∈ ps, p.1 < B64 ∧ p.2 < B64)
    (hz : w.heap[zb]? = some (.cells cz Tz (0, 0))) (hzo : zo + m ≤ cz.size) (hx : w.heap[xb]? = some (.cells cx Tx (0, 0))) (hxc : Has cx xo (ps.map (·.1))) (hsx : zb = xb → zo = xo)
    (hy : w.heap[yb]? = some (.cells cy Ty (0, 0))) (hyc : Has cy yo (ps.map (·.2))) (hsy : zb = yb → zo = yo) :
    Calls Tryz.prog 181 #[.slice (some ⟨zb, zo, none⟩) m zc, .slice (some ⟨xb, xo, none⟩) m xc, .slice (some ⟨yb, yo, none⟩) m yc] w fun e w' =>
      e = .returned (.int .u64 ((vC adC ps 0 : Nat) : Int)) ∧ Drew (putWords w zb zo (vL adS adC ps 0)) w' := by
  have HG := Lib.hid (addVV_g_any zb zo zc xb xo xc yb yo yc m ps cz cx cy Tz Tx Ty w hm hm1 hps hz hzo hx hxc hsx hy hyc hsy)
  clear hm hps hz hzo hx hxc hsx hy hyc hsy
  go_enter Tryz.func181, Tryz.ntmps181
  go_wp2_with fail
  refine HG.out.mono ?_
  rintro e w1 ⟨rfl, hd⟩
  go_wp2_with fail
  go_ret
  exact ⟨rfl, hd⟩
set_option maxHeartbeats 2000000 in
theorem subVV_g_any (zb zo zc xb xo xc yb yo yc m : Nat) (ps : List (Nat × Nat)) (cz cx cy : Array Value) (Tz Tx Ty : TypeId) (w : World)
    (hm : ps.length = m) (hm1 : m ≤ 1000000) (hps : ∀ p ∈ ps, p.1 < B64 ∧ p.2 < B64)
    (hz : w.heap[zb]? = some (.cells cz Tz (0, 0))) (hzo : zo + m ≤ cz.size) (hx : w.heap[xb]? = some (.cells cx Tx (0, 0))) (hxc : Has cx xo (ps.map (·.1))) (hsx : zb = xb → zo = xo)
    (hy : w.heap[yb]? = some (.cells cy Ty (0, 0))) (hyc : Has cy yo (ps.map (·.2))) (hsy : zb = yb → zo = yo) :
    Calls Tryz.prog 210 #[.slice (some ⟨zb, zo, none⟩) m zc, .slice (some ⟨xb, xo, none⟩) m xc, .slice (some ⟨yb, yo, none⟩) m yc] w fun e w' =>
      e = .returned (.int .u64 ((vC sbB ps 0 : Nat) : Int)) ∧ Drew (putWords w zb zo (vL sbD sbB ps 0)) w' := by
  have HM := Lib.hid hm
  have HZ := Lib.hid hz
  have HX := Lib.hid hx
  have HY := Lib.hid hy
  have HSX := Lib.hid hsx
  have HSY := Lib.hid hsy
  have HXC := Lib.hid hxc
  have HYC := Lib.hid hyc
  have HPS := Lib.hid hps
  clear hm hz hx hy hsx hsy hxc hyc hps
  go_enter Tryz.func210, Tryz.ntmps210
  go_wp2_with fail
  go_loopw [6, 25] (fun c k wr => ∃ j : Nat, j ≤ m ∧ k = .int .i64 j ∧ c = .int .u64 ((vC sbB (ps.take j) 0 : Nat) : Int) ∧ Drew (putWords w zb zo (vL sbD sbB (ps.take j) 0)) wr) (fun _ k _ => m - (intOf k).toNat)
  case atStart => exact ⟨0, Nat.zero_le _, rfl, rfl, Drew.refl _⟩
  case round =>
    obtain ⟨j, hj, rfl, rfl, nd, hwr⟩ := hrel
    have HW := Lib.hid hwr
    clear hwr
    by_cases hlt : j < m
    · have hcc : vC sbB (ps.take j) 0 ≤ 1 := vC_le _ (fun p hp c hc => sbB_le _ _ _) 0 (by omega)
      have hlen : (vL sbD sbB (ps.take j) 0).length = j := by rw [vL_len, List.length_take, HM.out]; omega
      have hl1 : (ps.map (·.1)).length = m := by rw [List.length_map, HM.out]
      have hl2 : (ps.map (·.2)).length = m := by rw [List.length_map, HM.out]
      have c1 : wr.cell? ⟨xb, xo + j, none⟩ = some (.int .u64 (((ps.map (·.1)).getD j 0 : Nat) : Int)) := by
        rw [HW.out]
        exact putWords_reads HZ.out HX.out HXC.out j (by rw [hl1]; exact hlt) (fun h => Or.inl (by rw [hlen]; have := HSX.out h; omega))
      have c2 : wr.cell? ⟨yb, yo + j, none⟩ = some (.int .u64 (((ps.map (·.2)).getD j 0 : Nat) : Int)) := by
        rw [HW.out]
        exact putWords_reads HZ.out HY.out HYC.out j (by rw [hl2]; exact hlt) (fun h => Or.inl (by rw [hlen]; have := HSY.out h; omega))
      have h3 := putWords_next (l := vL sbD sbB (ps.take j) 0) HZ.out j hlen (show zo + j < cz.size by omega)
      have h4 : (∃ u, wr.cell? ⟨zb, zo + j, none⟩ = some u) ∧ wr.frozen? ⟨zb, zo + j, none⟩ = false := by rw [HW.out]; exact h3
      obtain ⟨⟨u, c3⟩, c4⟩ := h4
      have fin : ∀ nq, Drew (putWords w zb zo (vL sbD sbB (ps.take (j + 1)) 0)) ((wr.drewN nq).setCell ⟨zb, zo + j, none⟩ (.int .u64 ((sbD ((ps.map (·.1)).getD j 0) ((ps.map (·.2)).getD j 0) (vC sbB (ps.take j) 0) : Nat) : Int))) := by
        intro nq
        rw [take_succ_pair _ _ (by rw [HM.out]; exact hlt), vL_snoc, putWords_snoc, hlen, HW.out, World.drewN_drewN]
        exact ⟨_, rfl⟩
      have finc : vC sbB (ps.take (j + 1)) 0 = sbB ((ps.map (·.1)).getD j 0) ((ps.map (·.2)).getD j 0) (vC sbB (ps.take j) 0) := by
        rw [take_succ_pair _ _ (by rw [HM.out]; exact hlt), vC_snoc]
      have FIN := Lib.hid fin
      have FINC := Lib.hid finc
      clear fin finc hlen h3 hl1 hl2 HW
      generalize (ps.map (·.1)).getD j 0 = xj at *
      generalize (ps.map (·.2)).getD j 0 = yj at *
      generalize vC sbB (ps.take j) 0 = cj at *
      have HB := Lib.hid (fun w => bits_Sub xj yj cj hcc w)
      have HBQ : Hid (∀ n, Calls Tryz.prog 211 #[.int .u64 (xj : Int), .int .u64 (yj : Int), .int .u64 (cj : Int)] (wr.drewN n) fun e w' => e = .returned (.tuple #[.int .u64 ((sbD xj yj cj : Nat) : Int), .int .u64 ((sbB xj yj cj : Nat) : Int)]) ∧ Drew (wr.drewN n) w') := fun n => (HB.out _).mono (fun e w' h => ⟨h.1, by rw [← h.2]; exact Drew.refl _⟩)
      go_wp2_with fail
      go_quiet ((go_at_call 211; first | exact quiet_add (HBQ.out _) | exact quiet_one (HBQ.out _)))
      go_wp2_with fail
      go_roundw
      case rel => exact ⟨j + 1, by omega, by go_num, by rw [FINC.out], FIN.out _⟩
      case measure => simp [intOf]; omega
    · have : j = m := by omega
      subst this
      go_wp2_with fail
      go_ret
      refine ⟨ret_u64 (by rw [List.take_of_length_le (by rw [HM.out]; exact Nat.le_refl _)]), ?_⟩
      rw [HW.out, List.take_of_length_le (by rw [HM.out]; exact Nat.le_refl _)]
      exact ⟨_, rfl⟩
set_option maxHeartbeats 400000 in
theorem subVV_any (zb zo zc xb xo xc yb yo yc m : Nat) (ps : List (Nat × Nat)) (cz cx cy : Array Value) (Tz Tx Ty : TypeId) (w : World)
    (hm : ps.length = m) (hm1 : m ≤ 1000000) (hps : ∀ p ∈ ps, p.1 < B64 ∧ p.2 < B64)
    (hz : w.heap[zb]? = some (.cells cz Tz (0, 0))) (hzo : zo + m ≤ cz.size) (hx : w.heap[xb]? = some (.cells cx Tx (0, 0))) (hxc : Has cx xo (ps.map (·.1))) (hsx : zb = xb → zo = xo)
    (hy : w.heap[yb]? = some (.cells cy Ty (0, 0))) (hyc : Has cy yo (ps.map (·.2))) (hsy : zb = yb → zo = yo) :
    Calls Tryz.prog 183 #[.slice (some ⟨zb, zo, none⟩) m zc, .slice (some ⟨xb, xo, none⟩) m xc, .slice (some ⟨yb, yo, none⟩) m yc] w fun e w' =>
      e = .returned (.int .u64 ((vC sbB ps 0 : Nat) : Int)) ∧ Drew (putWords w zb zo (vL sbD sbB ps 0)) w' := by
  have HG := Lib.hid (subVV_g_any zb zo zc xb xo xc yb yo yc m ps cz cx cy Tz Tx Ty w hm hm1 hps hz hzo hx hxc hsx hy hyc hsy)
  clear hm hps hz hzo hx hxc hsx hy hyc hsy
  go_enter Tryz.func183, Tryz.ntmps183
  go_wp2_with fail
  refine HG.out.mono ?_
  rintro e w1 ⟨rfl, hd⟩
  go_wp2_with fail
  go_ret
  exact ⟨rfl, hd⟩
end Go.Proofs.YtjebnpkebccffaaGreatDoor
namespace Go.Proofs.YtjebnpkebccffaaGreatDoor
open Go.RowKit
def prs (n m : Nat) : List (Nat × Nat) := (dig n).zip (dig m)
theorem prs_facts {n m : Nat} (h : (dig n).length = (dig m).length) : (prs n m).length = (dig n).length ∧ (prs n m).map (·.1) = dig n ∧ (prs n m).map (·.2) = dig m ∧ ∀ p ∈ prs n m, p.1 < B64 ∧ p.2 < B64 := by
  unfold prs
  refine ⟨by rw [List.length_zip, h, Nat.min_self], List.map_fst_zip (by omega), List.map_snd_zip (by omega), ?_⟩
  intro p hp
  exact ⟨dig_lt n _ (List.of_mem_zip hp).1, dig_lt m _ (List.of_mem_zip hp).2⟩
theorem add_words {n m : Nat} (h : (dig n).length = (dig m).length) : val (vL adS adC (prs n m) 0 ++ [vC adC (prs n m) 0]) = n + m ∧ (∀ x ∈ vL adS adC (prs n m) 0 ++ [vC adC (prs n m) 0], x < B64) ∧ (vL adS adC (prs n m) 0 ++ [vC adC (prs n m) 0]).length = (dig n).length + 1 := by
  obtain ⟨h1, h2, h3, h4⟩ := prs_facts h
  refine ⟨?_, ?_, by rw [List.length_append, vL_len, h1]; rfl⟩
  · rw [val_append, vL_len]
    have := add_val (prs n m) 0
    rw [h2, h3, val_dig, val_dig] at this
    simpa [val] using this
  · intro x hx
    rcases List.mem_append.1 hx with h' | h'
    · exact vL_lt adS_lt _ _ x h'
    · have hle := vC_le (C := adC) (prs n m) (fun p hp c hc => adC_le (h4 p hp).1 (h4 p hp).2 hc) 0 (by omega)
      simp at h'
      rw [h']
      unfold B64
      omega
theorem sub_words {n m : Nat} (h : (dig n).length = (dig m).length) (hle : m ≤ n) : val (vL sbD sbB (prs n m) 0) = n - m ∧ (∀ x ∈ vL sbD sbB (prs n m) 0, x < B64) ∧ (vL sbD sbB (prs n m) 0).length = (dig n).length ∧ vC sbB (prs n m) 0 = 0 := by
  obtain ⟨h1, h2, h3, h4⟩ := prs_facts h
  have hv := sub_val (prs n m) h4 0 (by omega)
  rw [h2, h3, val_dig, val_dig, h1] at hv
  have hlt := val_lt (l := vL sbD sbB (prs n m) 0) (vL_lt sbD_lt _ _)
  rw [vL_len, h1] at hlt
  have hc : vC sbB (prs n m) 0 ≤ 1 := vC_le _ (fun p hp c hc => sbB_le _ _ _) 0 (by omega)
  have h0 : vC sbB (prs n m) 0 = 0 := by
    rcases Nat.le_one_iff_eq_zero_or_eq_one.1 hc with h' | h'
    · exact h'
    · rw [h', Nat.mul_one] at hv
      omega
  rw [h0, Nat.mul_zero] at hv
  exact ⟨by omega, vL_lt sbD_lt _ _, by rw [vL_len, h1], h0⟩
set_option maxHeartbeats 2000000 in
theorem nat_add_eq (z x y : Value) (bz bx by_ : Option Nat) (n m : Nat) (w : World) (hz : BufAt w z bz) (hx : NatAt w x n bx) (hy : NatAt w y m by_) (hn0 : n ≠ 0) (hm0 : m ≠ 0) (hl : (dig n).length = (dig m).length) (hn : Sm n) :
    Calls Tryz.prog 144 #[z, x, y] w (NatRes w bz (n + m)) := by
  obtain ⟨kx, cx, rfl, rfl, hkx, hlx, hpx, hsx, hhx⟩ := has_val hx hn0
  obtain ⟨ky, cy, rfl, rfl, hky, hly, hpy, hsy, hhy⟩ := has_val hy hm0
  have hlen : (dig n).length ≤ 100000 := hn
  have hpos := dig_len_pos hn0
  have HW := Lib.hid (add_words hl)
  obtain ⟨p1, p2, p3, p4⟩ := prs_facts hl
  rw [← p2] at hhx
  rw [← p3] at hhy
  have HZ := Lib.hid hz
  have HKX := Lib.hid hkx
  have HKY := Lib.hid hky
  have HHX := Lib.hid hhx
  have HHY := Lib.hid hhy
  have HP4 := Lib.hid p4
  have HP1 := Lib.hid p1
  rw [← hl] at hly ⊢
  have a1 : (((dig n).length : Int) == 0) = false := beqF (by omega)
  generalize prs n m = ps at *
  clear hz hkx hky hhx hhy hx hy hn hn0 hm0 hl p1 p2 p3 p4
  generalize (dig n).length = len at *
  go_enter Tryz.func144, Tryz.ntmps144
  go_wp2_with fail
  refine (nat_make z bz (len + 1) _ HZ.out (by omega) (by omega)).mono ?_
  rintro e w1 ⟨k, cs, rfl, hk, hn, hp', hs', hown⟩
  have hkx1 := made_other hown HKX.out
  have hky1 := made_other hown HKY.out
  have HO := Lib.hid hown
  have HKK := Lib.hid hk
  have HV : Hid (∀ q, Calls Tryz.prog 181 #[.slice (some ⟨k, 0, none⟩) len cs.size, .slice (some ⟨kx, 0, none⟩) len cx.size, .slice (some ⟨ky, 0, none⟩) len cy.size] (w1.drewN q) fun e w' => e = .returned (.int .u64 ((vC adC ps 0 : Nat) : Int)) ∧ Drew (putWords w1 k 0 (vL adS adC ps 0)) w') := fun q =>
    (addVV_any k 0 cs.size kx 0 cx.size ky 0 cy.size len ps cs cx cy 165 165 165 (w1.drewN q) HP1.out (by omega) HP4.out hk (by omega) hkx1 HHX.out (fun _ => rfl) hky1 HHY.out (fun _ => rfl)).mono (fun e w' h => ⟨h.1, by
      obtain ⟨nn, hh⟩ := h.2
      refine ⟨q + nn, ?_⟩
      rw [hh]
      have : ∀ (l : List Nat) (o : Nat) (w : World), putWords (w.drewN q) k o l = (putWords w k o l).drewN q := by
        intro l
        induction l with
        | nil => intros; rfl
        | cons x l ih => intro o w; exact ih (o + 1) (w.setCell ⟨k, o, none⟩ (.int .u64 (x : Int)))
      rw [this, World.drewN_drewN]⟩)
  have HBK := Lib.hid (putWords_block hk 0 (vL adS adC ps 0))
  clear hown hkx1 hky1 hk
  go_wp2_with fail
  go_region_with (go_at_call 181; refine (HV.out _).mono ?_; rintro e w2 ⟨rfl, q2, hw2⟩; have HW2 := Lib.hid hw2; clear hw2)
  have hW2 : w2 = (putWords w1 k 0 (vL adS adC ps 0)).drewN q2 := HW2.out
  obtain ⟨e1, e2, e3⟩ := HW.out
  have hlv : (vL adS adC ps 0).length = len := by rw [vL_len, HP1.out]
  have hb2 : w2.heap[k]? = some (.cells (putC cs 0 (vL adS adC ps 0)) 165 (0, 0)) := by rw [hW2]; exact HBK.out
  have c2 : w2.cell? ⟨k, len, none⟩ = some (cs[len]) := by
    rw [cell_of hb2, putC_off _ _ _ _ (Or.inr (by rw [hlv]; omega))]
    exact Array.getElem?_eq_getElem (by omega)
  have f2 := frozen_of hb2 len
  have HF : Hid (w2.setCell ⟨k, len, none⟩ (.int .u64 ((vC adC ps 0 : Nat) : Int)) = (putWords w1 k 0 (vL adS adC ps 0 ++ [vC adC ps 0])).drewN q2) := by
    show _ = _
    rw [putWords_snoc, hlv, Nat.zero_add, hW2]
    rfl
  have hfb := putWords_block HKK.out 0 (vL adS adC ps 0 ++ [vC adC ps 0])
  have HFB := Lib.hid hfb
  have b1 : decide (len < len) = false := decide_eq_false (by omega)
  clear hb2 e1 e2 e3 hlv hfb hW2
  go_wp2_with fail
  obtain ⟨e1, e2, e3⟩ := HW.out
  have hfb : (w2.setCell ⟨k, len, none⟩ (.int .u64 ((vC adC ps 0 : Nat) : Int))).heap[k]? = some (.cells (putC cs 0 (vL adS adC ps 0 ++ [vC adC ps 0])) 165 (0, 0)) := by rw [HF.out]; exact HFB.out
  refine (norm_any k 0 cs.size (len + 1) _ _ 165 _ e3 (by omega) (by omega) e2 hfb (putC_has _ _ _ (by omega))).mono ?_
  rintro e w3 ⟨rfl, rfl⟩
  clear e1 e2 e3 hfb
  go_wp2_with fail
  go_ret
  obtain ⟨e1, e2, e3⟩ := HW.out
  refine natRes_mk HO.out ?_ ?_
  · rw [HF.out]; exact (putWords_kept (Kept.refl (fun i => i = k) _) k 0 _ (fun _ => rfl)).drewN _
  · have hfb : (w2.setCell ⟨k, len, none⟩ (.int .u64 ((vC adC ps 0 : Nat) : Int))).heap[k]? = some (.cells (putC cs 0 (vL adS adC ps 0 ++ [vC adC ps 0])) 165 (0, 0)) := by rw [HF.out]; exact HFB.out
    have := natAt_of hfb e2 e1 (putC_has _ _ _ (by omega)) (by rw [putC_size]; omega) (by rw [putC_size]; omega) (by rw [putC_size]; omega)
    rw [putC_size] at this
    rw [e1]
    exact this
set_option maxHeartbeats 2000000 in
theorem nat_sub_eq (z x y : Value) (bz bx by_ : Option Nat) (n m : Nat) (w : World) (hz : BufAt w z bz) (hx : NatAt w x n bx) (hy : NatAt w y m by_) (hn0 : n ≠ 0) (hm0 : m ≠ 0) (hl : (dig n).length = (dig m).length) (hn : Sm n) (hle : m ≤ n) :
    Calls Tryz.prog 145 #[z, x, y] w (NatRes w bz (n - m)) := by
  obtain ⟨kx, cx, rfl, rfl, hkx, hlx, hpx, hsx, hhx⟩ := has_val hx hn0
  obtain ⟨ky, cy, rfl, rfl, hky, hly, hpy, hsy, hhy⟩ := has_val hy hm0
  have hlen : (dig n).length ≤ 100000 := hn
  have hpos := dig_len_pos hn0
  have HW := Lib.hid (sub_words hl hle)
  obtain ⟨p1, p2, p3, p4⟩ := prs_facts hl
  rw [← p2] at hhx
  rw [← p3] at hhy
  have HZ := Lib.hid hz
  have HKX := Lib.hid hkx
  have HKY := Lib.hid hky
  have HHX := Lib.hid hhx
  have HHY := Lib.hid hhy
  have HP4 := Lib.hid p4
  have HP1 := Lib.hid p1
  rw [← hl] at hly ⊢
  have a1 : (((dig n).length : Int) == 0) = false := beqF (by omega)
  generalize prs n m = ps at *
  clear hz hkx hky hhx hhy hx hy hn hn0 hm0 hl p1 p2 p3 p4
  generalize (dig n).length = len at *
  go_enter Tryz.func145, Tryz.ntmps145
  go_wp2_with fail
  refine (nat_make z bz len _ HZ.out (by omega) (by omega)).mono ?_
  rintro e w1 ⟨k, cs, rfl, hk, hn, hp', hs', hown⟩
  have hkx1 := made_other hown HKX.out
  have hky1 := made_other hown HKY.out
  have HO := Lib.hid hown
  have HKK := Lib.hid hk
  have HV : Hid (∀ q, Calls Tryz.prog 183 #[.slice (some ⟨k, 0, none⟩) len cs.size, .slice (some ⟨kx, 0, none⟩) len cx.size, .slice (some ⟨ky, 0, none⟩) len cy.size] (w1.drewN q) fun e w' => e = .returned (.int .u64 ((vC sbB ps 0 : Nat) : Int)) ∧ Drew (putWords w1 k 0 (vL sbD sbB ps 0)) w') := fun q =>
    (subVV_any k 0 cs.size kx 0 cx.size ky 0 cy.size len ps cs cx cy 165 165 165 (w1.drewN q) HP1.out (by omega) HP4.out hk (by omega) hkx1 HHX.out (fun _ => rfl) hky1 HHY.out (fun _ => rfl)).mono (fun e w' h => ⟨h.1, by
      obtain ⟨nn, hh⟩ := h.2
      refine ⟨q + nn, ?_⟩
      rw [hh]
      have : ∀ (l : List Nat) (o : Nat) (w : World), putWords (w.drewN q) k o l = (putWords w k o l).drewN q := by
        intro l
        induction l with
        | nil => intros; rfl
        | cons x l ih => intro o w; exact ih (o + 1) (w.setCell ⟨k, o, none⟩ (.int .u64 (x : Int)))
      rw [this, World.drewN_drewN]⟩)
  have HBK := Lib.hid (putWords_block hk 0 (vL sbD sbB ps 0))
  clear hown hkx1 hky1 hk
  go_wp2_with fail
  go_region_with (go_at_call 183; refine (HV.out _).mono ?_; rintro e w2 ⟨rfl, q2, hw2⟩; have HW2 := Lib.hid hw2; clear hw2)
  have hW2 : w2 = (putWords w1 k 0 (vL sbD sbB ps 0)).drewN q2 := HW2.out
  have b1 : decide (len < len) = false := decide_eq_false (by omega)
  have b2 : ((vC sbB ps 0 : Nat) : Int) = 0 := by rw [HW.out.2.2.2]; rfl
  have hfb : w2.heap[k]? = some (.cells (putC cs 0 (vL sbD sbB ps 0)) 165 (0, 0)) := by rw [hW2]; exact HBK.out
  have HFB := Lib.hid hfb
  have HF := Lib.hid hW2
  rw [b2]
  clear hfb hW2 b2
  go_wp2_with fail
  obtain ⟨e1, e2, e3, e4⟩ := HW.out
  refine (norm_any k 0 cs.size len _ _ 165 _ e3 (by omega) (by omega) e2 HFB.out (putC_has _ _ _ (by omega))).mono ?_
  rintro e w3 ⟨rfl, rfl⟩
  clear e1 e2 e3 e4
  go_wp2_with fail
  go_ret
  obtain ⟨e1, e2, e3, e4⟩ := HW.out
  refine natRes_mk HO.out ?_ ?_
  · rw [HF.out]; exact (putWords_kept (Kept.refl (fun i => i = k) _) k 0 _ (fun _ => rfl)).drewN _
  · have := natAt_of HFB.out e2 e1 (putC_has _ _ _ (by omega)) (by rw [putC_size]; omega) (by rw [putC_size]; omega) (by rw [putC_size]; omega)
    rw [putC_size] at this
    rw [e1]
    exact this
end Go.Proofs.YtjebnpkebccffaaGreatDoor
namespace Go.Proofs.YtjebnpkebccffaaGreatDoor
open Go.RowKit
set_option maxRecDepth 100000 in
set_option maxHeartbeats 4000000 in
theorem Int_Sub_neg (z y n m : Nat) (bz by_ : Option Nat) (rz ry : List Value) (Tz Ty : TypeId) (w : World) (hz : IntAt w z (-(n : Int)) bz rz Tz) (hy : IntAt w y (m : Int) by_ ry Ty) (hne : z ≠ y) (hby : bz ≠ some y) (hn0 : n ≠ 0) (hm0 : m ≠ 0) (hl : (dig n).length = (dig m).length) (hn : Sm n) :
    Calls Tryz.prog 122 #[.pointer (some ⟨z, 0, none⟩), .pointer (some ⟨z, 0, none⟩), .pointer (some ⟨y, 0, none⟩)] w (IntRes w z bz (-((n + m : Nat) : Int)) rz Tz) := by
  obtain ⟨vz, hz1, hz2, hz3⟩ := hz
  obtain ⟨vy, hy1, hy2, hy3⟩ := hy
  rw [Int.natAbs_neg, Int.natAbs_natCast] at hz2
  rw [Int.natAbs_natCast] at hy2
  rw [decT (show -(n : Int) < 0 by omega)] at hz1
  rw [decF (show ¬ (m : Int) < 0 by omega)] at hy1
  obtain ⟨cz0, cz1, fz0, fz1⟩ := int_cells hz1
  obtain ⟨cy0, cy1, _, _⟩ := int_cells hy1
  have HM : Hid (∀ q, Calls Tryz.prog 144 #[vz, vz, vy] (w.drewN q) (NatRes (w.drewN q) bz (n + m))) := fun q => nat_add_eq vz vz vy bz bz by_ n m (w.drewN q) (by exact hz2.buf) (by exact hz2) (by exact hy2) hn0 hm0 hl hn
  have HFIN := Lib.hid (fun (q : Nat) (w1 : World) (b' : Option Nat) (v' : Value) h => mid_mk (w := w) (W := w.drewN q) (w1 := w1) (b' := b') (n := n + m) (v' := v') rfl rfl rfl rfl hz1 hz3 h)
  have HW1 : Hid (∀ (q : Nat) (w1 : World), Kept (fun k => bz = some k) (w.drewN q) w1 → w1.cell? ⟨z, 1, none⟩ = some vz ∧ w1.frozen? ⟨z, 1, none⟩ = false) := by
    intro q w1 hK
    have e := hK.at (o := .cells (Value.bool true :: vz :: rz).toArray Tz (0, 0)) hz1 hz3
    exact ⟨(int_cells e).2.1, (int_cells e).2.2.2⟩
  have e0 := dig_len_pos (n := n + m) (by omega)
  generalize hL : (dig (n + m)).length = L at *
  have HL := Lib.hid hL
  have g0 : decide ((0 : Int) < (L : Int)) = true := decT (by omega)
  have HSZ : Hid (∀ wx, Mid w z bz (n + m) true rz Tz wx → (∃ a c, wx.cell? ⟨z, 1, none⟩ = some (.slice a L c)) ∧ wx.frozen? ⟨z, 0, none⟩ = false ∧ wx.cell? ⟨z, 0, none⟩ = some (.bool true)) := by
    intro wx ⟨v', b', h1, h2, h3, h4, h5⟩
    obtain ⟨a, c, rfl⟩ := nat_slice h1
    obtain ⟨d0, d1, d2, d3⟩ := int_cells h5
    rw [HL.out] at d1
    exact ⟨⟨a, c, d1⟩, d2, d0⟩
  have HS : Hid (true = decide ((-((n + m : Nat) : Int)) < 0)) := (decT (by omega)).symm
  clear hz1 hz2 hy1 hy2 hz3 hy3 hby hl hn hL
  go_enter Tryz.func122, Tryz.ntmps122
  go_wp2_with fail
  go_quiet (fail)
  go_wp2_with fail
  go_cut [] (fun wx => Mid w z bz (n + m) true rz Tz wx)
  case first =>
    go_region_with (go_at_call 144; refine (HM.out _).mono ?_; rintro e w1 ⟨v', b', rfl, h⟩; obtain ⟨a', c', rfl⟩ := nat_slice h.1; obtain ⟨g1, g2⟩ := HW1.out _ w1 h.2.1; have H := Lib.hid h; clear h)
    all_goals (go_wp2_with fail; go_meet; exact HFIN.out _ _ _ _ H.out)
  case rest =>
    
    obtain ⟨⟨a, c, z1⟩, fz, z0⟩ := HSZ.out _ hcut
    have HCT := Lib.hid hcut
    clear hcut
    go_wp2_with fail
    go_ret
    have hm : Mid w z bz (((-((n + m : Nat) : Int)) : Int).natAbs) true rz Tz wc := by
      rw [Int.natAbs_neg, Int.natAbs_natCast]
      exact HCT.out
    exact mid_fin hm 0 HS.out
set_option maxRecDepth 100000 in
set_option maxHeartbeats 4000000 in
theorem Int_Add_neg (z y n m : Nat) (bz by_ : Option Nat) (rz ry : List Value) (Tz Ty : TypeId) (w : World) (hz : IntAt w z (-(n : Int)) bz rz Tz) (hy : IntAt w y (m : Int) by_ ry Ty) (hne : z ≠ y) (hby : bz ≠ some y) (hn0 : n ≠ 0) (hm0 : m ≠ 0) (hl : (dig n).length = (dig m).length) (hn : Sm n) (hlt : n < m) :
    Calls Tryz.prog 106 #[.pointer (some ⟨z, 0, none⟩), .pointer (some ⟨z, 0, none⟩), .pointer (some ⟨y, 0, none⟩)] w (IntRes w z bz (((m - n : Nat) : Int)) rz Tz) := by
  obtain ⟨vz, hz1, hz2, hz3⟩ := hz
  obtain ⟨vy, hy1, hy2, hy3⟩ := hy
  rw [Int.natAbs_neg, Int.natAbs_natCast] at hz2
  rw [Int.natAbs_natCast] at hy2
  rw [decT (show -(n : Int) < 0 by omega)] at hz1
  rw [decF (show ¬ (m : Int) < 0 by omega)] at hy1
  obtain ⟨cz0, cz1, fz0, fz1⟩ := int_cells hz1
  obtain ⟨cy0, cy1, _, _⟩ := int_cells hy1
  have HM : Hid (∀ q, Calls Tryz.prog 145 #[vz, vy, vz] (w.drewN q) (NatRes (w.drewN q) bz (m - n))) := fun q => nat_sub_eq vz vy vz bz by_ bz m n (w.drewN q) (by exact hz2.buf) (by exact hy2) (by exact hz2) hm0 hn0 hl.symm (by unfold Sm at hn ⊢; omega) (by omega)
  have HC : Hid (∀ q, Calls Tryz.prog 142 #[vz, vy] (w.drewN q) fun e w' => e = .returned (.int .i64 (-1)) ∧ Drew (w.drewN q) w') := fun q => by
    have := cmp_any vz vy bz by_ n m (w.drewN q) (by exact hz2) (by exact hy2)
    rwa [cmpN_lt hlt] at this
  have HFIN := Lib.hid (fun (q : Nat) (w1 : World) (b' : Option Nat) (v' : Value) h => mid_mk (w := w) (W := w.drewN q) (w1 := w1) (b' := b') (n := m - n) (v' := v') rfl rfl rfl rfl hz1 hz3 h)
  have HW1 : Hid (∀ (q : Nat) (w1 : World), Kept (fun k => bz = some k) (w.drewN q) w1 → w1.cell? ⟨z, 1, none⟩ = some vz ∧ w1.frozen? ⟨z, 1, none⟩ = false) := by
    intro q w1 hK
    have e := hK.at (o := .cells (Value.bool true :: vz :: rz).toArray Tz (0, 0)) hz1 hz3
    exact ⟨(int_cells e).2.1, (int_cells e).2.2.2⟩
  have e0 := dig_len_pos (n := m - n) (by omega)
  generalize hL : (dig (m - n)).length = L at *
  have HL := Lib.hid hL
  have g0 : decide ((0 : Int) < (L : Int)) = true := decT (by omega)
  have HSZ : Hid (∀ wx, Mid w z bz (m - n) true rz Tz wx → (∃ a c, wx.cell? ⟨z, 1, none⟩ = some (.slice a L c)) ∧ wx.frozen? ⟨z, 0, none⟩ = false ∧ wx.cell? ⟨z, 0, none⟩ = some (.bool true)) := by
    intro wx ⟨v', b', h1, h2, h3, h4, h5⟩
    obtain ⟨a, c, rfl⟩ := nat_slice h1
    obtain ⟨d0, d1, d2, d3⟩ := int_cells h5
    rw [HL.out] at d1
    exact ⟨⟨a, c, d1⟩, d2, d0⟩
  have HS : Hid (false = decide ((((m - n : Nat) : Int)) < 0)) := (decF (by omega)).symm
  clear hz1 hz2 hy1 hy2 hz3 hy3 hby hl hn hL
  go_enter Tryz.func106, Tryz.ntmps106
  go_wp2_with fail
  go_quiet (fail)
  go_wp2_with fail
  go_quiet ((go_at_call 142; first | exact quiet_add (HC.out _) | exact quiet_one (HC.out _)))
  go_wp2_with fail
  go_cut [7] (fun v7 wx => v7 = .bool false ∧ Mid w z bz (m - n) true rz Tz wx)
  case first =>
    go_region_with (go_at_call 145; refine (HM.out _).mono ?_; rintro e w1 ⟨v', b', rfl, h⟩; obtain ⟨a', c', rfl⟩ := nat_slice h.1; obtain ⟨g1, g2⟩ := HW1.out _ w1 h.2.1; have H := Lib.hid h; clear h)
    all_goals (go_wp2_with fail; go_meet; exact ⟨rfl, HFIN.out _ _ _ _ H.out⟩)
  case rest =>
    obtain ⟨rfl, hcut⟩ := hcut
    obtain ⟨⟨a, c, z1⟩, fz, z0⟩ := HSZ.out _ hcut
    have HCT := Lib.hid hcut
    clear hcut
    go_wp2_with fail
    go_ret
    have hm : Mid w z bz (((((m - n : Nat) : Int)) : Int).natAbs) true rz Tz wc := by
      rw [Int.natAbs_natCast]
      exact HCT.out
    exact mid_fin hm 0 HS.out
end Go.Proofs.YtjebnpkebccffaaGreatDoor
