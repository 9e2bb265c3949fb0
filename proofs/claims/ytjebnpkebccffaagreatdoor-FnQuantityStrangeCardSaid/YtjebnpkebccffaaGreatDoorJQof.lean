import Derived.Test.YtjebnpkebccffaaGreatDoorJQme
import Derived.Test.YtjebnpkebccffaaGreatDoorJQcan
set_option linter.unusedSimpArgs false
set_option linter.unusedVariables false
set_option linter.unusedSectionVars false
namespace Go.Proofs.YtjebnpkebccffaaGreatDoor
open Go.RowKit
open Go.Proofs.YtjebnpkebccffaaGreatDoorW.PrintLast
/-! ### quantityOf (printed by qof.py) -/
theorem zero_store {w : World} {b : Nat} (h : w.heap[b]? = some (.cells #[.bool false, .slice none 0 0, .int .i64 0] 30 (0, 0))) :
    (((w.setCell ⟨b, 0, none⟩ (.bool false)).setCell ⟨b, 1, none⟩ (.slice none 0 0)).setCell ⟨b, 2, none⟩ (.int .i64 0)).drew.heap[b]? = some (.cells #[.bool false, .slice none 0 0, .int .i64 0] 30 (0, 0)) ∧ Kept (fun i => i = b) w (((w.setCell ⟨b, 0, none⟩ (.bool false)).setCell ⟨b, 1, none⟩ (.slice none 0 0)).setCell ⟨b, 2, none⟩ (.int .i64 0)).drew := by
  have hd : w.drew.heap[b]? = _ := h
  have st := store3 hd (.bool false) (.slice none 0 0) (.int .i64 0)
  exact ⟨st.1, (Kept.refl _ _).drew.trans st.2 (fun _ _ f => f) (fun _ _ f => f)⟩
theorem qmeans_b (q : QW) (hq : QRight q) (h1 : q.num.size + q.denom.size ≤ 100) (h2 : q.power.size ≤ 2) : DmB (qmeans q) 130 330 := by
  have hM := rd_bound (q.num ++ q.denom) 100 (by rw [ByteArray.size_append]; exact h1)
  have hP := rd_bound q.power 2 h2
  have hpw : -100 ≤ pwr q ∧ pwr q ≤ 100 := by unfold pwr; split <;> omega
  have hN : qN q < 10 ^ 130 := by
    unfold qN
    split
    · have hp : q.place ≤ 6 := by have := hq.kinds; omega
      have e1 : (1024 : Nat) ^ q.place.toNat ≤ 1024 ^ 6 := Nat.pow_le_pow_right (by omega) (by omega)
      have e2 : (1024 : Nat) ^ 6 < 10 ^ 30 := by decide
      have e3 : qM q * 1024 ^ q.place.toNat < 10 ^ 100 * 10 ^ 30 := Nat.mul_lt_mul'' hM (Nat.lt_of_le_of_lt e1 e2)
      rwa [← Nat.pow_add] at e3
    · exact Nat.lt_of_lt_of_le hM (by decide)
  have hE : -200 ≤ qE q ∧ qE q ≤ 200 := by
    unfold qE
    have := hq.kinds
    split
    · omega
    · split <;> omega
  exact nd_b hN hE.1 hE.2
structure OfOk (q : QW) (t : ByteArray) (d : Dm) : Prop where
  text : t = qwrite q
  right : QRight q
  size : q.num.size + q.denom.size ≤ 100
  pow : q.power.size ≤ 2
  means : d = qmeans q
def OfPost (q : QW) (t : ByteArray) (d : Dm) (k : Bool) : Prop := k = true → OfOk q t d
def QofRes (w : World) (q : QW) (e : Ending) (w' : World) : Prop := (∃ (t cn : ByteArray) (p : Option Addr) (n c : Nat) (d : Dm) (k : Bool), e = .returned (.tuple #[.string t, .agg #[.bool d.neg, .slice p n c, .int .i64 d.e], .string cn, .bool k]) ∧ OfPost q t d k ∧ ∃ b, NsAt w' (.slice p n c) d.ds b) ∧ Kept (fun _ => False) w w'
set_option maxRecDepth 100000 in
set_option maxHeartbeats 8000000 in
theorem quantityOf_any (q : QW) (h1 : q.num.size ≤ 2147483647) (h2 : q.denom.size ≤ 2147483647) (h3 : q.power.size ≤ 2147483647) (w : World) : Calls Tryz.prog 11 #[.agg q.cells] w (QofRes w q) := by
  have HR : Hid (∀ w, Calls Tryz.prog 29 #[.agg q.cells] w fun e w' => (∃ k : Bool, e = .returned (.bool k) ∧ (k = true → QRight q)) ∧ Kept (fun _ => False) w w') := fun w => QuantityRight_any q h1 h2 h3 w
  have HM : Hid (∀ w, QRight q → q.num.size + q.denom.size ≤ 100 → Calls Tryz.prog 30 #[.agg q.cells] w (DmRes w (qmeans q))) := fun w hq hs => QuantityMeans_any q hq hs w
  have HWR : Hid (∀ w, QRight q → q.num.size + q.denom.size ≤ 100 → Calls Tryz.prog 31 #[.agg q.cells] w fun e w' => e = .returned (.string (qwrite q)) ∧ Kept (fun _ => False) w w') := fun w hq hs => QuantityWrite_any q hq ⟨by omega, by omega⟩ w
  have HPF : Hid (∀ t d, OfPost q t d false) := fun t d h => by cases h
  have HPT : Hid (∀ k, QRight q → q.num.size + q.denom.size ≤ 100 → q.power.size ≤ 2 → OfPost q (qwrite q) (qmeans q) k) := fun k hq hs hp _ => ⟨rfl, hq, hs, hp, rfl⟩
  have HB : Hid (QRight q → q.num.size + q.denom.size ≤ 100 → q.power.size ≤ 2 → DmB (qmeans q) 130 330) := fun hq hs hp => qmeans_b q hq hs hp
  show Calls Tryz.prog 11 #[.agg q.cells] w fun e w' => (∃ (t cn : ByteArray) (p : Option Addr) (n c : Nat) (d : Dm) (k : Bool), e = .returned (.tuple #[.string t, .agg #[.bool d.neg, .slice p n c, .int .i64 d.e], .string cn, .bool k]) ∧ OfPost q t d k ∧ ∃ b, NsAt w' (.slice p n c) d.ds b) ∧ Kept (fun _ => False) w w'
  generalize OfPost q = P at *
  generalize QRight q = QR at *
  generalize hD : qmeans q = D at *
  generalize hT : qwrite q = T at *
  clear hD hT
  obtain ⟨sg, nm, dt, dn, kd, pl, up, ps, pw⟩ := q
  simp only [QW.cells] at *
  have k0 : Kept (fun _ => False) w ((w.alloc (.cells #[.int .i64 sg, .string nm, .bool dt, .string dn, .int .i64 kd, .int .i64 pl, .bool up, .int .i64 ps, .string pw] 23)).alloc (.cells #[.bool false, .slice none 0 0, .int .i64 0] 30)) := ((Kept.refl _ _).alloc _).alloc _
  have b1 := heap_alloc_new w (.cells #[.int .i64 sg, .string nm, .bool dt, .string dn, .int .i64 kd, .int .i64 pl, .bool up, .int .i64 ps, .string pw] 23)
  have b1 := ((Kept.refl (fun _ => False) _).alloc (.cells #[.bool false, .slice none 0 0, .int .i64 0] 30)).at b1 (fun f => f)
  have b2 := heap_alloc_new (w.alloc (.cells #[.int .i64 sg, .string nm, .bool dt, .string dn, .int .i64 kd, .int .i64 pl, .bool up, .int .i64 ps, .string pw] 23)) (.cells #[.bool false, .slice none 0 0, .int .i64 0] 30)
  have e2 : (w.alloc (.cells #[.int .i64 sg, .string nm, .bool dt, .string dn, .int .i64 kd, .int .i64 pl, .bool up, .int .i64 ps, .string pw] 23)).heap.size = w.heap.size + 1 := by simp
  rw [e2] at b2
  generalize hW : (w.alloc (.cells #[.int .i64 sg, .string nm, .bool dt, .string dn, .int .i64 kd, .int .i64 pl, .bool up, .int .i64 ps, .string pw] 23)).alloc (.cells #[.bool false, .slice none 0 0, .int .i64 0] 30) = W at *
  have B1 := Lib.hid b1
  have B2 := Lib.hid b2
  have K0 := Lib.hid k0
  obtain ⟨c0, c1, c2, c3, c4, c5, c6, c7, c8⟩ := cell9 b1
  clear b1 b2 k0 e2
  go_enter Tryz.func11, Tryz.ntmps11
  go_wp2_with fail
  refine (HR.out _).mono ?_
  rintro e w2 ⟨⟨k, rfl, hk⟩, hk2⟩
  have G1 := Lib.hid (hk2.at B1.out (fun f => f))
  have G2 := Lib.hid (hk2.at B2.out (fun f => f))
  have K2 := Lib.hid (K0.out.same hk2)
  have HK := Lib.hid hk
  clear hk hk2 c0 c1 c2 c3 c4 c5 c6 c7 c8 hW
  obtain ⟨c0, c1, c2, c3, c4, c5, c6, c7, c8⟩ := cell9 G1.out
  obtain ⟨d0, d1, d2⟩ := cells3 G2.out
  cases k
  · skip
    go_wp2_with fail
    have hst := zero_store G2.out
    have hb2 : w2.drew.heap[w.heap.size + 1]? = _ := G2.out
    obtain ⟨d0, d1, d2⟩ := cells3 hb2
    have f0 := frozen_of G2.out 0
    have f1 := frozen_of G2.out 1
    have f2 := frozen_of G2.out 2
    generalize hW3 : (((w2.setCell ⟨w.heap.size + 1, 0, none⟩ (.bool false)).setCell ⟨w.heap.size + 1, 1, none⟩ (.slice none 0 0)).setCell ⟨w.heap.size + 1, 2, none⟩ (.int .i64 0)).drew = W3 at hst
    have S1 := Lib.hid hst.1
    have K3 : Hid (Kept (fun _ => False) w W3) := K2.out.trans hst.2 (fun _ _ f => f) (fun j hj e => by omega)
    clear hst hb2
    refine start_ (n := 5) (S := fun w' => w'.cell? ⟨w.heap.size + 1, 0, none⟩ = some (.bool false) ∧ w'.cell? ⟨w.heap.size + 1, 1, none⟩ = some (.slice none 0 0) ∧ w'.cell? ⟨w.heap.size + 1, 2, none⟩ = some (.int .i64 0)) (ds := [2]) #[false, false, false, false, false] (by kernel_rfl) rfl rfl ⟨d0, d1, d2⟩ (fun hHeld => ?_)
    refine pure_ (i := 1) (N := some 2) (v := ?_) (a' := ?_) #[false, true, false, false, false] rfl rfl (by kernel_rfl) (fun _ _ _ h => h) (Or.inl ⟨by rfl, ?_⟩) ?_ ?_
    rotate_left
    · intro w'
      go_simp
      with_reducible rfl
    rotate_left
    · simp only [Act.put, List.setIfInBounds_toArray, List.set_cons_zero, List.set_cons_succ, i64_w, i32_w]
      rfl
    refine take_ (i := 0) (N := some 36) (v := ?_) (a' := ?_) #[true, true, false, false, false] rfl rfl (by kernel_rfl) (fun _ _ _ h => h) (Or.inl ⟨by rfl, ?_⟩) hHeld ?_ ?_
    rotate_left
    · rintro w' ⟨s0, s1, s2⟩
      go_simp
      with_reducible rfl
    rotate_left
    · simp only [Act.put, List.setIfInBounds_toArray, List.set_cons_zero, List.set_cons_succ, i64_w, i32_w]
      rfl
    refine last_ (i := 2) (N := none) #[true, true, true, false, false] rfl rfl (by kernel_rfl) (by decide) (fun K hK => ?_)
    refine skip_ (w1 := ?_) (by rfl) rfl ?_ ?_
    rotate_left
    · go_simp
      rfl
    refine hK.out _ _ ?_
    clear hK K
    refine pure_ (i := 3) (N := some 4) (v := ?_) (a' := ?_) #[true, true, true, true, false] rfl rfl (by kernel_rfl) (fun _ _ _ h => h) (Or.inl ⟨by rfl, ?_⟩) ?_ ?_
    rotate_left
    · intro w'
      go_simp
      with_reducible rfl
    rotate_left
    · simp only [Act.put, List.setIfInBounds_toArray, List.set_cons_zero, List.set_cons_succ, i64_w, i32_w]
      rfl
    refine pure_ (i := 4) (N := some 5) (v := ?_) (a' := ?_) #[true, true, true, true, true] rfl rfl (by kernel_rfl) (fun _ _ _ h => h) (Or.inl ⟨by rfl, ?_⟩) ?_ ?_
    rotate_left
    · intro w'
      go_simp
      with_reducible rfl
    rotate_left
    · simp only [Act.put, List.setIfInBounds_toArray, List.set_cons_zero, List.set_cons_succ, i64_w, i32_w]
      rfl
    refine done_ (by kernel_rfl) ?_
    obtain ⟨y0, y1, y2⟩ := cells3 S1.out
    go_wp2_with fail
    refine bodyPost_ret (v := .tuple #[.string ⟨#[]⟩, .agg #[.bool false, .slice none 0 0, .int .i64 0], .string ⟨#[]⟩, .bool false]) ?_ rfl ⟨⟨_, _, none, 0, 0, ⟨false, [], 0⟩, false, rfl, HPF.out _ _, ⟨none, rfl, rfl⟩⟩, K3.out⟩
    simp [results, Tryz.f11, loadVar, go_sem, y0, y1, y2]
  · have HQ := Lib.hid (HK.out rfl)
    by_cases hs : nm.size + dn.size ≤ 100
    · have hs1 : decide ((100 : Int) < (nm.size : Int) + (dn.size : Int)) = false := decF (by omega)
      by_cases hp : pw.size ≤ 2
      · have hp1 : decide ((2 : Int) < (pw.size : Int)) = false := decF (by omega)
        have h4 : (Op.bytesLess pw.toList [54, 48] = false ∧ (pw.toList == [54, 48]) = false ∧ pw.size = 2) ∨ (Op.bytesLess pw.toList [54, 48] = true ∨ (Op.bytesLess pw.toList [54, 48] = false ∧ (pw.toList == [54, 48]) = true) ∨ (Op.bytesLess pw.toList [54, 48] = false ∧ (pw.toList == [54, 48]) = false ∧ pw.size ≠ 2)) := by
          cases Op.bytesLess pw.toList [54, 48] <;> cases (pw.toList == [54, 48]) <;> simp
          omega
        rcases h4 with ⟨hL, hE, hZ⟩ | h4
        · have hz1 : ((pw.size : Int) == 2) = true := beqT (by omega)
          have hz2 : (pw.size == 2) = true := by simpa using hZ
          clear hZ
          go_wp2_with fail
          have hst := zero_store G2.out
          have hb2 : w2.drew.heap[w.heap.size + 1]? = _ := G2.out
          obtain ⟨d0, d1, d2⟩ := cells3 hb2
          have f0 := frozen_of G2.out 0
          have f1 := frozen_of G2.out 1
          have f2 := frozen_of G2.out 2
          generalize hW3 : (((w2.setCell ⟨w.heap.size + 1, 0, none⟩ (.bool false)).setCell ⟨w.heap.size + 1, 1, none⟩ (.slice none 0 0)).setCell ⟨w.heap.size + 1, 2, none⟩ (.int .i64 0)).drew = W3 at hst
          have S1 := Lib.hid hst.1
          have K3 : Hid (Kept (fun _ => False) w W3) := K2.out.trans hst.2 (fun _ _ f => f) (fun j hj e => by omega)
          clear hst hb2
          refine start_ (n := 5) (S := fun w' => w'.cell? ⟨w.heap.size + 1, 0, none⟩ = some (.bool false) ∧ w'.cell? ⟨w.heap.size + 1, 1, none⟩ = some (.slice none 0 0) ∧ w'.cell? ⟨w.heap.size + 1, 2, none⟩ = some (.int .i64 0)) (ds := [2]) #[false, false, false, false, false] (by kernel_rfl) rfl rfl ⟨d0, d1, d2⟩ (fun hHeld => ?_)
          refine pure_ (i := 1) (N := some 2) (v := ?_) (a' := ?_) #[false, true, false, false, false] rfl rfl (by kernel_rfl) (fun _ _ _ h => h) (Or.inl ⟨by rfl, ?_⟩) ?_ ?_
          rotate_left
          · intro w'
            go_simp
            with_reducible rfl
          rotate_left
          · simp only [Act.put, List.setIfInBounds_toArray, List.set_cons_zero, List.set_cons_succ, i64_w, i32_w]
            rfl
          refine take_ (i := 0) (N := some 36) (v := ?_) (a' := ?_) #[true, true, false, false, false] rfl rfl (by kernel_rfl) (fun _ _ _ h => h) (Or.inl ⟨by rfl, ?_⟩) hHeld ?_ ?_
          rotate_left
          · rintro w' ⟨s0, s1, s2⟩
            go_simp
            with_reducible rfl
          rotate_left
          · simp only [Act.put, List.setIfInBounds_toArray, List.set_cons_zero, List.set_cons_succ, i64_w, i32_w]
            rfl
          refine last_ (i := 2) (N := none) #[true, true, true, false, false] rfl rfl (by kernel_rfl) (by decide) (fun K hK => ?_)
          refine skip_ (w1 := ?_) (by rfl) rfl ?_ ?_
          rotate_left
          · go_simp
            rfl
          refine hK.out _ _ ?_
          clear hK K
          refine pure_ (i := 3) (N := some 4) (v := ?_) (a' := ?_) #[true, true, true, true, false] rfl rfl (by kernel_rfl) (fun _ _ _ h => h) (Or.inl ⟨by rfl, ?_⟩) ?_ ?_
          rotate_left
          · intro w'
            go_simp
            with_reducible rfl
          rotate_left
          · simp only [Act.put, List.setIfInBounds_toArray, List.set_cons_zero, List.set_cons_succ, i64_w, i32_w]
            rfl
          refine pure_ (i := 4) (N := some 5) (v := ?_) (a' := ?_) #[true, true, true, true, true] rfl rfl (by kernel_rfl) (fun _ _ _ h => h) (Or.inl ⟨by rfl, ?_⟩) ?_ ?_
          rotate_left
          · intro w'
            go_simp
            with_reducible rfl
          rotate_left
          · simp only [Act.put, List.setIfInBounds_toArray, List.set_cons_zero, List.set_cons_succ, i64_w, i32_w]
            rfl
          refine done_ (by kernel_rfl) ?_
          obtain ⟨y0, y1, y2⟩ := cells3 S1.out
          go_wp2_with fail
          refine bodyPost_ret (v := .tuple #[.string ⟨#[]⟩, .agg #[.bool false, .slice none 0 0, .int .i64 0], .string ⟨#[]⟩, .bool false]) ?_ rfl ⟨⟨_, _, none, 0, 0, ⟨false, [], 0⟩, false, rfl, HPF.out _ _, ⟨none, rfl, rfl⟩⟩, K3.out⟩
          simp [results, Tryz.f11, loadVar, go_sem, y0, y1, y2]
        · have HB2 := HB.out HQ.out hs hp
          have HCAN : Hid (∀ w v, DmAt w v D → Calls Tryz.prog 13 #[v, .int .i64 kd] w (SomeSB w)) := fun w v hv => QuantityCanonical_some v D kd w hv (by have := HB2.len; omega) HB2.dig (by have := HB2.lo; have := HB2.hi; omega)
          have HPP : Hid (pw.size ≤ 2) := hp
          have HSS : Hid (nm.size + dn.size ≤ 100) := hs
          clear HB2
          rcases h4 with hL | ⟨hL, hE⟩ | ⟨hL, hE, hZ⟩
          all_goals
            first
            | (have hz1 : ((pw.size : Int) == 2) = false := beqF (by omega)
               have hz2 : (pw.size == 2) = false := by simpa using hZ
               clear hZ)
            | skip
            go_wp2_with fail
            refine (HM.out _ HQ.out hs).mono ?_
            rintro e w3 ⟨v3, rfl, hv3, hk3⟩
            obtain ⟨p, n, c, b, rfl, hns⟩ := hv3.shape
            have g1 := hk3.at G1.out (fun f => f)
            have g2 := hk3.at G2.out (fun f => f)
            have hne := hns.ne g2 (by decide)
            have st := store3 g2 (.bool D.neg) (.slice p n c) (.int .i64 D.e)
            obtain ⟨d0, d1, d2⟩ := cells3 g2
            have f0 := frozen_of g2 0
            have f1 := frozen_of g2 1
            have f2 := frozen_of g2 2
            generalize hW4 : (((w3.setCell ⟨w.heap.size + 1, 0, none⟩ (.bool D.neg)).setCell ⟨w.heap.size + 1, 1, none⟩ (.slice p n c)).setCell ⟨w.heap.size + 1, 2, none⟩ (.int .i64 D.e)) = W4 at st
            have g3 := st.2.at g1 (by omega)
            have G4 := Lib.hid st.1
            have NS4 := Lib.hid (hns.kept st.2 hne)
            have K4 : Hid (Kept (fun _ => False) w W4) := (K2.out.same hk3).trans st.2 (fun _ _ f => f) (fun j hj e => by omega)
            have G3 := Lib.hid g3
            obtain ⟨q0, q1, q2, q3, q4, q5, q6, q7, q8⟩ := cell9 g3
            obtain ⟨x0, x1, x2⟩ := cells3 G4.out
            clear g1 g2 hne st g3 hns hk3 hv3
            go_wp2_with fail
            refine (HCAN.out W4 _ ⟨_, b, rfl, NS4.out⟩).mono ?_
            rintro e w5 ⟨⟨t5, k5, rfl⟩, hk5⟩
            have hk5 := hk5.drew
            have G7 : Hid (w5.drew.heap[w.heap.size]? = _) := hk5.at G3.out (fun f => f)
            have G8 : Hid (w5.drew.heap[w.heap.size + 1]? = _) := hk5.at G4.out (fun f => f)
            have K8 := Lib.hid (K4.out.same hk5)
            have NS8 := Lib.hid (NS4.out.old hk5)
            clear hk5 hW4 q0 q1 q2 q3 q4 q5 q6 q7 q8 x0 x1 x2 d0 d1 d2 f0 f1 f2
            obtain ⟨q0, q1, q2, q3, q4, q5, q6, q7, q8⟩ := cell9 G7.out
            obtain ⟨x0, x1, x2⟩ := cells3 G8.out
            go_wp2_with fail
            refine start_ (n := 9) (S := fun w' => w'.cell? ⟨w.heap.size, 0, none⟩ = some (.int .i64 sg) ∧ w'.cell? ⟨w.heap.size, 1, none⟩ = some (.string nm) ∧ w'.cell? ⟨w.heap.size, 2, none⟩ = some (.bool dt) ∧ w'.cell? ⟨w.heap.size, 3, none⟩ = some (.string dn) ∧ w'.cell? ⟨w.heap.size, 4, none⟩ = some (.int .i64 kd) ∧ w'.cell? ⟨w.heap.size, 5, none⟩ = some (.int .i64 pl) ∧ w'.cell? ⟨w.heap.size, 6, none⟩ = some (.bool up) ∧ w'.cell? ⟨w.heap.size, 7, none⟩ = some (.int .i64 ps) ∧ w'.cell? ⟨w.heap.size, 8, none⟩ = some (.string pw) ∧ w'.cell? ⟨w.heap.size + 1, 0, none⟩ = some (.bool D.neg) ∧ w'.cell? ⟨w.heap.size + 1, 1, none⟩ = some (.slice p n c) ∧ w'.cell? ⟨w.heap.size + 1, 2, none⟩ = some (.int .i64 D.e)) (ds := [6]) #[false, false, false, false, false, false, false, false, false] (by kernel_rfl) rfl rfl ⟨q0, q1, q2, q3, q4, q5, q6, q7, q8, x0, x1, x2⟩ (fun hHeld => ?_)
            refine pure_ (i := 3) (N := some 49) (v := ?_) (a' := ?_) #[false, false, false, true, false, false, false, false, false] rfl rfl (by kernel_rfl) (fun _ _ _ h => h) (Or.inl ⟨by rfl, ?_⟩) ?_ ?_
            rotate_left
            · intro w'
              go_simp
              with_reducible rfl
            rotate_left
            · simp only [Act.put, List.setIfInBounds_toArray, List.set_cons_zero, List.set_cons_succ, i64_w, i32_w]
              rfl
            refine pure_ (i := 4) (N := some 50) (v := ?_) (a' := ?_) #[false, false, false, true, true, false, false, false, false] rfl rfl (by kernel_rfl) (fun _ _ _ h => h) (Or.inl ⟨by rfl, ?_⟩) ?_ ?_
            rotate_left
            · intro w'
              go_simp
              with_reducible rfl
            rotate_left
            · simp only [Act.put, List.setIfInBounds_toArray, List.set_cons_zero, List.set_cons_succ, i64_w, i32_w]
              rfl
            refine take_ (i := 0) (N := some 46) (v := ?_) (a' := ?_) #[true, false, false, true, true, false, false, false, false] rfl rfl (by kernel_rfl) (fun _ _ _ h => h) (Or.inl ⟨by rfl, ?_⟩) hHeld ?_ ?_
            rotate_left
            · rintro w' ⟨s0, s1, s2, s3, s4, s5, s6, s7, s8, s9, s10, s11⟩
              go_simp
              with_reducible rfl
            rotate_left
            · simp only [Act.put, List.setIfInBounds_toArray, List.set_cons_zero, List.set_cons_succ, i64_w, i32_w]
              rfl
            refine take_ (i := 2) (N := some 48) (v := ?_) (a' := ?_) #[true, false, true, true, true, false, false, false, false] rfl rfl (by kernel_rfl) (fun _ _ _ h => h) (Or.inl ⟨by rfl, ?_⟩) hHeld ?_ ?_
            rotate_left
            · rintro w' ⟨s0, s1, s2, s3, s4, s5, s6, s7, s8, s9, s10, s11⟩
              go_simp
              with_reducible rfl
            rotate_left
            · simp only [Act.put, List.setIfInBounds_toArray, List.set_cons_zero, List.set_cons_succ, i64_w, i32_w]
              rfl
            refine one_ (i := 1) (N := some 47) #[true, true, true, true, true, false, false, false, false] rfl rfl (by kernel_rfl) (by decide) (fun K hK => ?_)
            refine goes_ Tryz.func31 (by kernel_rfl) rfl #[.agg #[.int .i64 sg, .string nm, .bool dt, .string dn, .int .i64 kd, .int .i64 pl, .bool up, .int .i64 ps, .string pw]] (by rfl) rfl rfl (by simp only [List.map_toArray, List.map_cons, List.map_nil]; rfl) ?_
            with_reducible refine (HWR.out _ HQ.out hs).mono ?_
            rintro e w9 ⟨rfl, hk⟩
            have G9 := Lib.hid (hk.at G7.out (fun f => f))
            have G10 := Lib.hid (hk.at G8.out (fun f => f))
            have K9 := Lib.hid (K8.out.same hk)
            have NS9 := Lib.hid (NS8.out.old hk)
            obtain ⟨q0, q1, q2, q3, q4, q5, q6, q7, q8⟩ := cell9 G9.out
            obtain ⟨x0, x1, x2⟩ := cells3 G10.out
            have st := store3 G10.out (.bool D.neg) (.slice p n c) (.int .i64 D.e)
            have f0 := frozen_of G10.out 0
            have f1 := frozen_of G10.out 1
            have f2 := frozen_of G10.out 2
            generalize hW3 : (((w9.setCell ⟨w.heap.size + 1, 0, none⟩ (.bool D.neg)).setCell ⟨w.heap.size + 1, 1, none⟩ (.slice p n c)).setCell ⟨w.heap.size + 1, 2, none⟩ (.int .i64 D.e)) = W3 at st
            have S1 := Lib.hid st.1
            have S2 := Lib.hid st.2
            clear st hk
            refine ⟨_, rfl, ?_⟩
            refine hK.out _ _ ⟨q0, q1, q2, q3, q4, q5, q6, q7, q8, x0, x1, x2⟩ (fun hHeld => ?_)
            clear hK K
            refine norm_ (a' := ?_) ?_ ?_
            rotate_left
            · show Act.put _ (some 47) _ = _
              simp only [Act.put, List.setIfInBounds_toArray, List.set_cons_zero, List.set_cons_succ, i64_w, i32_w]
              rfl
            refine pure_ (i := 5) (N := some 2) (v := ?_) (a' := ?_) #[true, true, true, true, true, true, false, false, false] rfl rfl (by kernel_rfl) (fun _ _ _ h => h) (Or.inl ⟨by rfl, ?_⟩) ?_ ?_
            rotate_left
            · intro w'
              go_simp
              with_reducible rfl
            rotate_left
            · simp only [Act.put, List.setIfInBounds_toArray, List.set_cons_zero, List.set_cons_succ, i64_w, i32_w]
              rfl
            refine last_ (i := 6) (N := none) #[true, true, true, true, true, true, true, false, false] rfl rfl (by kernel_rfl) (by decide) (fun K hK => ?_)
            refine skip_ (w1 := ?_) (by rfl) rfl ?_ ?_
            rotate_left
            · go_simp
              rfl
            refine hK.out _ _ ?_
            clear hK K
            refine pure_ (i := 7) (N := some 4) (v := ?_) (a' := ?_) #[true, true, true, true, true, true, true, true, false] rfl rfl (by kernel_rfl) (fun _ _ _ h => h) (Or.inl ⟨by rfl, ?_⟩) ?_ ?_
            rotate_left
            · intro w'
              go_simp
              with_reducible rfl
            rotate_left
            · simp only [Act.put, List.setIfInBounds_toArray, List.set_cons_zero, List.set_cons_succ, i64_w, i32_w]
              rfl
            refine pure_ (i := 8) (N := some 5) (v := ?_) (a' := ?_) #[true, true, true, true, true, true, true, true, true] rfl rfl (by kernel_rfl) (fun _ _ _ h => h) (Or.inl ⟨by rfl, ?_⟩) ?_ ?_
            rotate_left
            · intro w'
              go_simp
              with_reducible rfl
            rotate_left
            · simp only [Act.put, List.setIfInBounds_toArray, List.set_cons_zero, List.set_cons_succ, i64_w, i32_w]
              rfl
            refine done_ (by kernel_rfl) ?_
            obtain ⟨y0, y1, y2⟩ := cells3 S1.out
            go_wp2_with fail
            refine bodyPost_ret (v := .tuple #[.string T, .agg #[.bool D.neg, .slice p n c, .int .i64 D.e], .string t5, .bool k5]) ?_ rfl ⟨⟨_, _, p, n, c, D, k5, rfl, HPT.out k5 HQ.out HSS.out HPP.out, ⟨b, NS9.out.kept S2.out (NS9.out.ne G10.out (by decide))⟩⟩, K9.out.trans S2.out (fun _ _ f => f) (fun j hj e => by omega)⟩
            simp [results, Tryz.f11, loadVar, go_sem, y0, y1, y2]
      · have hp1 : decide ((2 : Int) < (pw.size : Int)) = true := decT (by omega)
        go_wp2_with fail
        have hst := zero_store G2.out
        have hb2 : w2.drew.heap[w.heap.size + 1]? = _ := G2.out
        obtain ⟨d0, d1, d2⟩ := cells3 hb2
        have f0 := frozen_of G2.out 0
        have f1 := frozen_of G2.out 1
        have f2 := frozen_of G2.out 2
        generalize hW3 : (((w2.setCell ⟨w.heap.size + 1, 0, none⟩ (.bool false)).setCell ⟨w.heap.size + 1, 1, none⟩ (.slice none 0 0)).setCell ⟨w.heap.size + 1, 2, none⟩ (.int .i64 0)).drew = W3 at hst
        have S1 := Lib.hid hst.1
        have K3 : Hid (Kept (fun _ => False) w W3) := K2.out.trans hst.2 (fun _ _ f => f) (fun j hj e => by omega)
        clear hst hb2
        refine start_ (n := 5) (S := fun w' => w'.cell? ⟨w.heap.size + 1, 0, none⟩ = some (.bool false) ∧ w'.cell? ⟨w.heap.size + 1, 1, none⟩ = some (.slice none 0 0) ∧ w'.cell? ⟨w.heap.size + 1, 2, none⟩ = some (.int .i64 0)) (ds := [2]) #[false, false, false, false, false] (by kernel_rfl) rfl rfl ⟨d0, d1, d2⟩ (fun hHeld => ?_)
        refine pure_ (i := 1) (N := some 2) (v := ?_) (a' := ?_) #[false, true, false, false, false] rfl rfl (by kernel_rfl) (fun _ _ _ h => h) (Or.inl ⟨by rfl, ?_⟩) ?_ ?_
        rotate_left
        · intro w'
          go_simp
          with_reducible rfl
        rotate_left
        · simp only [Act.put, List.setIfInBounds_toArray, List.set_cons_zero, List.set_cons_succ, i64_w, i32_w]
          rfl
        refine take_ (i := 0) (N := some 36) (v := ?_) (a' := ?_) #[true, true, false, false, false] rfl rfl (by kernel_rfl) (fun _ _ _ h => h) (Or.inl ⟨by rfl, ?_⟩) hHeld ?_ ?_
        rotate_left
        · rintro w' ⟨s0, s1, s2⟩
          go_simp
          with_reducible rfl
        rotate_left
        · simp only [Act.put, List.setIfInBounds_toArray, List.set_cons_zero, List.set_cons_succ, i64_w, i32_w]
          rfl
        refine last_ (i := 2) (N := none) #[true, true, true, false, false] rfl rfl (by kernel_rfl) (by decide) (fun K hK => ?_)
        refine skip_ (w1 := ?_) (by rfl) rfl ?_ ?_
        rotate_left
        · go_simp
          rfl
        refine hK.out _ _ ?_
        clear hK K
        refine pure_ (i := 3) (N := some 4) (v := ?_) (a' := ?_) #[true, true, true, true, false] rfl rfl (by kernel_rfl) (fun _ _ _ h => h) (Or.inl ⟨by rfl, ?_⟩) ?_ ?_
        rotate_left
        · intro w'
          go_simp
          with_reducible rfl
        rotate_left
        · simp only [Act.put, List.setIfInBounds_toArray, List.set_cons_zero, List.set_cons_succ, i64_w, i32_w]
          rfl
        refine pure_ (i := 4) (N := some 5) (v := ?_) (a' := ?_) #[true, true, true, true, true] rfl rfl (by kernel_rfl) (fun _ _ _ h => h) (Or.inl ⟨by rfl, ?_⟩) ?_ ?_
        rotate_left
        · intro w'
          go_simp
          with_reducible rfl
        rotate_left
        · simp only [Act.put, List.setIfInBounds_toArray, List.set_cons_zero, List.set_cons_succ, i64_w, i32_w]
          rfl
        refine done_ (by kernel_rfl) ?_
        obtain ⟨y0, y1, y2⟩ := cells3 S1.out
        go_wp2_with fail
        refine bodyPost_ret (v := .tuple #[.string ⟨#[]⟩, .agg #[.bool false, .slice none 0 0, .int .i64 0], .string ⟨#[]⟩, .bool false]) ?_ rfl ⟨⟨_, _, none, 0, 0, ⟨false, [], 0⟩, false, rfl, HPF.out _ _, ⟨none, rfl, rfl⟩⟩, K3.out⟩
        simp [results, Tryz.f11, loadVar, go_sem, y0, y1, y2]
    · have hs1 : decide ((100 : Int) < (nm.size : Int) + (dn.size : Int)) = true := decT (by omega)
      go_wp2_with fail
      have hst := zero_store G2.out
      have hb2 : w2.drew.heap[w.heap.size + 1]? = _ := G2.out
      obtain ⟨d0, d1, d2⟩ := cells3 hb2
      have f0 := frozen_of G2.out 0
      have f1 := frozen_of G2.out 1
      have f2 := frozen_of G2.out 2
      generalize hW3 : (((w2.setCell ⟨w.heap.size + 1, 0, none⟩ (.bool false)).setCell ⟨w.heap.size + 1, 1, none⟩ (.slice none 0 0)).setCell ⟨w.heap.size + 1, 2, none⟩ (.int .i64 0)).drew = W3 at hst
      have S1 := Lib.hid hst.1
      have K3 : Hid (Kept (fun _ => False) w W3) := K2.out.trans hst.2 (fun _ _ f => f) (fun j hj e => by omega)
      clear hst hb2
      refine start_ (n := 5) (S := fun w' => w'.cell? ⟨w.heap.size + 1, 0, none⟩ = some (.bool false) ∧ w'.cell? ⟨w.heap.size + 1, 1, none⟩ = some (.slice none 0 0) ∧ w'.cell? ⟨w.heap.size + 1, 2, none⟩ = some (.int .i64 0)) (ds := [2]) #[false, false, false, false, false] (by kernel_rfl) rfl rfl ⟨d0, d1, d2⟩ (fun hHeld => ?_)
      refine pure_ (i := 1) (N := some 2) (v := ?_) (a' := ?_) #[false, true, false, false, false] rfl rfl (by kernel_rfl) (fun _ _ _ h => h) (Or.inl ⟨by rfl, ?_⟩) ?_ ?_
      rotate_left
      · intro w'
        go_simp
        with_reducible rfl
      rotate_left
      · simp only [Act.put, List.setIfInBounds_toArray, List.set_cons_zero, List.set_cons_succ, i64_w, i32_w]
        rfl
      refine take_ (i := 0) (N := some 36) (v := ?_) (a' := ?_) #[true, true, false, false, false] rfl rfl (by kernel_rfl) (fun _ _ _ h => h) (Or.inl ⟨by rfl, ?_⟩) hHeld ?_ ?_
      rotate_left
      · rintro w' ⟨s0, s1, s2⟩
        go_simp
        with_reducible rfl
      rotate_left
      · simp only [Act.put, List.setIfInBounds_toArray, List.set_cons_zero, List.set_cons_succ, i64_w, i32_w]
        rfl
      refine last_ (i := 2) (N := none) #[true, true, true, false, false] rfl rfl (by kernel_rfl) (by decide) (fun K hK => ?_)
      refine skip_ (w1 := ?_) (by rfl) rfl ?_ ?_
      rotate_left
      · go_simp
        rfl
      refine hK.out _ _ ?_
      clear hK K
      refine pure_ (i := 3) (N := some 4) (v := ?_) (a' := ?_) #[true, true, true, true, false] rfl rfl (by kernel_rfl) (fun _ _ _ h => h) (Or.inl ⟨by rfl, ?_⟩) ?_ ?_
      rotate_left
      · intro w'
        go_simp
        with_reducible rfl
      rotate_left
      · simp only [Act.put, List.setIfInBounds_toArray, List.set_cons_zero, List.set_cons_succ, i64_w, i32_w]
        rfl
      refine pure_ (i := 4) (N := some 5) (v := ?_) (a' := ?_) #[true, true, true, true, true] rfl rfl (by kernel_rfl) (fun _ _ _ h => h) (Or.inl ⟨by rfl, ?_⟩) ?_ ?_
      rotate_left
      · intro w'
        go_simp
        with_reducible rfl
      rotate_left
      · simp only [Act.put, List.setIfInBounds_toArray, List.set_cons_zero, List.set_cons_succ, i64_w, i32_w]
        rfl
      refine done_ (by kernel_rfl) ?_
      obtain ⟨y0, y1, y2⟩ := cells3 S1.out
      go_wp2_with fail
      refine bodyPost_ret (v := .tuple #[.string ⟨#[]⟩, .agg #[.bool false, .slice none 0 0, .int .i64 0], .string ⟨#[]⟩, .bool false]) ?_ rfl ⟨⟨_, _, none, 0, 0, ⟨false, [], 0⟩, false, rfl, HPF.out _ _, ⟨none, rfl, rfl⟩⟩, K3.out⟩
      simp [results, Tryz.f11, loadVar, go_sem, y0, y1, y2]
end Go.Proofs.YtjebnpkebccffaaGreatDoor
