import Derived.Test.YtjebnpkebccffaaGreatDoorKNs
import Derived.Test.YtjebnpkebccffaaGreatDoorWLast
import Derived.BigQuiet
set_option linter.unusedSimpArgs false
set_option linter.unusedVariables false
set_option linter.unusedSectionVars false
namespace Go.Proofs.YtjebnpkebccffaaGreatDoor
open Go.RowKit
open Go.Proofs.YtjebnpkebccffaaGreatDoorW.PrintLast
def lexc (A B : List Nat) : Nat → Nat → Int
  | 0, _ => 0
  | n + 1, i => if A.getD i 0 = B.getD i 0 then lexc A B n (i + 1) else if A.getD i 0 < B.getD i 0 then -1 else 1
def lgr (d f : Dm) : Int :=
  if (d.ds.length : Int) + d.e < (f.ds.length : Int) + f.e then -1 else if (f.ds.length : Int) + f.e < (d.ds.length : Int) + d.e then 1 else lexc d.ds f.ds (max d.ds.length f.ds.length) 0
theorem lexc_b (A B : List Nat) : ∀ n i, -1 ≤ lexc A B n i ∧ lexc A B n i ≤ 1 := by
  intro n
  induction n with
  | zero => intro i; simp [lexc]
  | succ n ih =>
    intro i
    unfold lexc
    split
    · exact ih _
    · split <;> omega
theorem lgr_b (d f : Dm) : -1 ≤ lgr d f ∧ lgr d f ≤ 1 := by
  unfold lgr
  split
  · omega
  · split
    · omega
    · exact lexc_b _ _ _ _
theorem lexc_step {A B : List Nat} {n m i : Nat} (h : i < n ∨ i < m) : lexc A B (max n m - i) i = if A.getD i 0 = B.getD i 0 then lexc A B (max n m - (i + 1)) (i + 1) else if A.getD i 0 < B.getD i 0 then -1 else 1 := by
  rw [show max n m - i = (max n m - (i + 1)) + 1 by omega]
  rfl
theorem getD_out {l : List Nat} {i : Nat} (h : l.length ≤ i) : l.getD i 0 = 0 := by
  rw [List.getD_eq_getElem?_getD, List.getElem?_eq_none h]; rfl
theorem bneT {a b : Int} (h : a ≠ b) : (a != b) = true := by simp [bne, h]
def IntIs (w : World) (r : Int) (e : Ending) (w' : World) : Prop := e = .returned (.int .i64 r) ∧ Kept (fun _ => False) w w'
set_option maxRecDepth 100000 in
set_option maxHeartbeats 4000000 in
theorem larger_any (v u : Value) (d f : Dm) (w : World) (h : DmAt w v d) (g : DmAt w u f) (hl : d.ds.length ≤ 10000 ∧ f.ds.length ≤ 10000) (he : -10000 ≤ d.e ∧ d.e ≤ 10000 ∧ -10000 ≤ f.e ∧ f.e ≤ 10000) :
    Calls Tryz.prog 43 #[v, u] w (IntIs w (lgr d f)) := by
  obtain ⟨p, c, b, rfl, hs⟩ := h.shape2
  obtain ⟨p', c', b', rfl, hs'⟩ := g.shape2
  have k0 : Kept (fun _ => False) w ((w.alloc (.cells #[.bool d.neg, .slice p d.ds.length c, .int .i64 d.e] 30)).alloc (.cells #[.bool f.neg, .slice p' f.ds.length c', .int .i64 f.e] 30)) := ((Kept.refl _ _).alloc _).alloc _
  have hb := heap_alloc_new w (.cells #[.bool d.neg, .slice p d.ds.length c, .int .i64 d.e] 30)
  have hb1 := ((Kept.refl (fun _ => False) (w.alloc (.cells #[.bool d.neg, .slice p d.ds.length c, .int .i64 d.e] 30))).alloc (.cells #[.bool f.neg, .slice p' f.ds.length c', .int .i64 f.e] 30)).at hb (fun f => f)
  have hb2 := heap_alloc_new (w.alloc (.cells #[.bool d.neg, .slice p d.ds.length c, .int .i64 d.e] 30)) (.cells #[.bool f.neg, .slice p' f.ds.length c', .int .i64 f.e] 30)
  have e2 : (w.alloc (.cells #[.bool d.neg, .slice p d.ds.length c, .int .i64 d.e] 30)).heap.size = w.heap.size + 1 := by simp
  rw [e2] at hb2
  have hsA := hs.old k0
  have hsB := hs'.old k0
  generalize hW : ((w.alloc (.cells #[.bool d.neg, .slice p d.ds.length c, .int .i64 d.e] 30)).alloc (.cells #[.bool f.neg, .slice p' f.ds.length c', .int .i64 f.e] 30)) = W at *
  have K0 := Lib.hid k0
  obtain ⟨c0, c1, c2⟩ := cells3 hb1
  obtain ⟨g0, g1, g2⟩ := cells3 hb2
  have hb1d : W.drew.heap[w.heap.size]? = _ := hb1
  have hb2d : W.drew.heap[w.heap.size + 1]? = _ := hb2
  obtain ⟨c0d, c1d, c2d⟩ := cells3 hb1d
  obtain ⟨g0d, g1d, g2d⟩ := cells3 hb2d
  have hLT : (d.ds.length : Int) + d.e < (f.ds.length : Int) + f.e → lgr d f = -1 := fun h => by unfold lgr; rw [if_pos h]
  have hGT : (f.ds.length : Int) + f.e < (d.ds.length : Int) + d.e → lgr d f = 1 := fun h => by unfold lgr; rw [if_neg (by omega), if_pos h]
  have hEQ : (d.ds.length : Int) + d.e = (f.ds.length : Int) + f.e → lgr d f = lexc d.ds f.ds (max d.ds.length f.ds.length - 0) 0 := fun h => by unfold lgr; rw [if_neg (by omega), if_neg (by omega)]; rfl
  have hox : ∀ i, d.ds.length ≤ i → d.ds.getD i 0 = 0 := fun i h => getD_out h
  have hoy : ∀ i, f.ds.length ≤ i → f.ds.getD i 0 = 0 := fun i h => getD_out h
  generalize lgr d f = G at *
  generalize hn : d.ds.length = n at *
  generalize hm : f.ds.length = m at *
  have hx : ∀ i, i < n → ∃ k o, p = some ⟨k, o, none⟩ ∧ W.cell? ⟨k, o + i, none⟩ = some (.int .i64 ((d.ds.getD i 0 : Nat) : Int)) := by
    intro i hi
    cases b with
    | none => rw [hsA.2] at hn; simp at hn; omega
    | some k =>
      obtain ⟨o, cap, cs, h1, h2, h3, h4, h5⟩ := hsA
      injection h1 with h1
      exact ⟨k, o, h1, by rw [cell_of h4]; exact h5 i (by omega)⟩
  have hy : ∀ i, i < m → ∃ k o, p' = some ⟨k, o, none⟩ ∧ W.cell? ⟨k, o + i, none⟩ = some (.int .i64 ((f.ds.getD i 0 : Nat) : Int)) := by
    intro i hi
    cases b' with
    | none => rw [hsB.2] at hm; simp at hm; omega
    | some k =>
      obtain ⟨o, cap, cs, h1, h2, h3, h4, h5⟩ := hsB
      injection h1 with h1
      exact ⟨k, o, h1, by rw [cell_of h4]; exact h5 i (by omega)⟩
  generalize d.ds = A at *
  generalize f.ds = B at *
  have HX := Lib.hid hx
  have HOX := Lib.hid hox
  have HOY := Lib.hid hoy
  have HLT := Lib.hid hLT
  have HGT := Lib.hid hGT
  have HEQ := Lib.hid hEQ
  have HL := Lib.hid hl
  have HY := Lib.hid hy
  clear hb hb1 hb2 hb1d hb2d hsA hsB hs hs' h g hx hy k0 e2 hn hm hox hoy hLT hGT hEQ
  go_enter Tryz.func43, Tryz.ntmps43
  go_wp2_with fail
  go_quiet (fail)
  clear hW
  by_cases hne : (n : Int) + d.e = (m : Int) + f.e
  · have q1 : (((n : Int) + d.e) != ((m : Int) + f.e)) = false := by simp [hne]
    have HNE := Lib.hid hne
    clear hne
    go_wp2_with fail
    have HG0 : Hid (G = lexc A B (max n m - 0) 0) := HEQ.out HNE.out
    go_loop [7] (fun v7 => ∃ i : Nat, v7 = .int .i64 (i : Int) ∧ i ≤ 10000 ∧ Hid (G = lexc A B (max n m - i) i)) (fun v7 => n + m - uOf v7)
    case atStart => exact ⟨0, rfl, by omega, HG0⟩
    case round =>
      obtain ⟨i, rfl, hi, HG⟩ := hrel
      rcases Nat.lt_or_ge i n with hin | hin
      · obtain ⟨k, o, rfl, cx⟩ := HX.out i hin
        rcases Nat.lt_or_ge i m with him | him
        · obtain ⟨k', o', rfl, cy⟩ := HY.out i him
          have hst := lexc_step (A := A) (B := B) (n := n) (m := m) (i := i) (by omega)
          rw [← HG.out] at hst
          have HST := Lib.hid hst
          clear hst HG
          generalize A.getD i 0 = x at *
          generalize B.getD i 0 = y at *
          by_cases he : x = y
          · subst he
            have b1 : ((x : Int) != (x : Int)) = false := by simp
            go_wp2_with fail
            go_round
            case rel => exact ⟨i + 1, rfl, by have := HL.out; omega, Lib.hid (by rw [HST.out, if_pos rfl])⟩
            case measure => simp [uOf]; omega
          · have b1 : ((x : Int) != (y : Int)) = true := bneT (by omega)
            have E1 : Hid (x ≠ y) := he
            by_cases hlt : x < y
            · have b2 : decide ((x : Int) < (y : Int)) = true := decT (by omega)
              have b6 : decide (x < y) = true := decide_eq_true hlt
              have E2 : Hid (G = -1) := by show G = -1; rw [HST.out, if_neg he, if_pos hlt]
              clear he hlt
              go_wp2_with fail
              go_ret
              exact ⟨by rw [E2.out]; rfl, K0.out.drewN _⟩
            · have b2 : decide ((x : Int) < (y : Int)) = false := decF (by omega)
              have b6 : decide (x < y) = false := decide_eq_false hlt
              have E2 : Hid (G = 1) := by show G = 1; rw [HST.out, if_neg he, if_neg hlt]
              clear he hlt
              go_wp2_with fail
              go_ret
              exact ⟨by rw [E2.out]; rfl, K0.out.drewN _⟩
        · skip
          have hst := lexc_step (A := A) (B := B) (n := n) (m := m) (i := i) (by omega)
          rw [← HG.out] at hst
          rw [HOY.out i (by omega)] at hst
          have HST := Lib.hid hst
          clear hst HG
          generalize A.getD i 0 = x at *
          by_cases he : x = 0
          · subst he
            go_wp2_with fail
            go_round
            case rel => exact ⟨i + 1, rfl, by have := HL.out; omega, Lib.hid (by rw [HST.out, if_pos rfl])⟩
            case measure => simp [uOf]; omega
          · have b1 : ((x : Int) != (0 : Int)) = true := bneT (by omega)
            have E1 : Hid (x ≠ 0) := he
            have b3 : ((x : Int) == 0) = false := beqF (by omega)
            have b4 : (x == 0) = false := by simpa using he
            have b5 : (x != 0) = true := by simp [bne, b4]
            by_cases hlt : x < 0
            · exact absurd hlt (Nat.not_lt_zero _)
            · have b2 : decide ((x : Int) < (0 : Int)) = false := decF (by omega)
              have b6 : decide (x < 0) = false := decide_eq_false hlt
              have E2 : Hid (G = 1) := by show G = 1; rw [HST.out, if_neg he, if_neg hlt]
              clear he hlt
              go_wp2_with fail
              go_ret
              exact ⟨by rw [E2.out]; rfl, K0.out.drewN _⟩
      · rcases Nat.lt_or_ge i m with him | him
        · obtain ⟨k', o', rfl, cy⟩ := HY.out i him
          have hst := lexc_step (A := A) (B := B) (n := n) (m := m) (i := i) (by omega)
          rw [← HG.out] at hst
          rw [HOX.out i (by omega)] at hst
          have HST := Lib.hid hst
          clear hst HG
          generalize B.getD i 0 = y at *
          by_cases he : 0 = y
          · subst he
            go_wp2_with fail
            go_round
            case rel => exact ⟨i + 1, rfl, by have := HL.out; omega, Lib.hid (by rw [HST.out, if_pos rfl])⟩
            case measure => simp [uOf]; omega
          · have b1 : ((0 : Int) != (y : Int)) = true := bneT (by omega)
            have E1 : Hid (0 ≠ y) := he
            have b3 : ((0 : Int) == (y : Int)) = false := beqF (by omega)
            have b4 : (0 == y) = false := by simpa using he
            have b5 : (0 != y) = true := by simp [bne, b4]
            by_cases hlt : 0 < y
            · have b2 : decide ((0 : Int) < (y : Int)) = true := decT (by omega)
              have b6 : decide (0 < y) = true := decide_eq_true hlt
              have E2 : Hid (G = -1) := by show G = -1; rw [HST.out, if_neg he, if_pos hlt]
              clear he hlt
              go_wp2_with fail
              go_ret
              exact ⟨by rw [E2.out]; rfl, K0.out.drewN _⟩
            · exact absurd (Nat.pos_of_ne_zero (fun h => he h.symm)) hlt
        · have hg := HG.out
          rw [show max n m - i = 0 by omega] at hg
          have HG2 : Hid (G = 0) := hg
          clear hg HG
          go_wp2_with fail
          go_ret
          exact ⟨by rw [HG2.out]; rfl, K0.out.drewN _⟩
  · have q1 : (((n : Int) + d.e) != ((m : Int) + f.e)) = true := by simp [hne]
    have HK := Lib.hid (K0.out)
    by_cases hlt : (n : Int) + d.e < (m : Int) + f.e
    · go_wp2_with fail
      go_ret
      exact ⟨by rw [HLT.out hlt]; rfl, K0.out.drewN _⟩
    · go_wp2_with fail
      go_ret
      exact ⟨by rw [HGT.out (by omega)]; rfl, K0.out.drewN _⟩
theorem sgnD_b (d : Dm) : -1 ≤ sgnD d ∧ sgnD d ≤ 1 := by unfold sgnD; split; omega; split <;> omega
def cmpD (d f : Dm) : Int := if sgnD d = sgnD f then (if sgnD d < 0 then -lgr d f else if 0 < sgnD d then lgr d f else 0) else if sgnD d < sgnD f then -1 else 1
set_option maxRecDepth 100000 in
set_option maxHeartbeats 4000000 in
theorem DecimalCmp_any (v u : Value) (d f : Dm) (w : World) (h : DmAt w v d) (g : DmAt w u f) (hl : d.ds.length ≤ 10000 ∧ f.ds.length ≤ 10000) (he : -10000 ≤ d.e ∧ d.e ≤ 10000 ∧ -10000 ≤ f.e ∧ f.e ≤ 10000) :
    Calls Tryz.prog 34 #[v, u] w (IntIs w (cmpD d f)) := by
  have HV := Lib.hid h
  have HU := Lib.hid g
  obtain ⟨p, c, b, rfl, hs⟩ := h.shape2
  obtain ⟨p', c', b', rfl, hs'⟩ := g.shape2
  have k0 : Kept (fun _ => False) w ((w.alloc (.cells #[.bool d.neg, .slice p d.ds.length c, .int .i64 d.e] 30)).alloc (.cells #[.bool f.neg, .slice p' f.ds.length c', .int .i64 f.e] 30)) := ((Kept.refl _ _).alloc _).alloc _
  have hb := heap_alloc_new w (.cells #[.bool d.neg, .slice p d.ds.length c, .int .i64 d.e] 30)
  have hb1 := ((Kept.refl (fun _ => False) (w.alloc (.cells #[.bool d.neg, .slice p d.ds.length c, .int .i64 d.e] 30))).alloc (.cells #[.bool f.neg, .slice p' f.ds.length c', .int .i64 f.e] 30)).at hb (fun f => f)
  have hb2 := heap_alloc_new (w.alloc (.cells #[.bool d.neg, .slice p d.ds.length c, .int .i64 d.e] 30)) (.cells #[.bool f.neg, .slice p' f.ds.length c', .int .i64 f.e] 30)
  have e2 : (w.alloc (.cells #[.bool d.neg, .slice p d.ds.length c, .int .i64 d.e] 30)).heap.size = w.heap.size + 1 := by simp
  rw [e2] at hb2
  generalize hW : ((w.alloc (.cells #[.bool d.neg, .slice p d.ds.length c, .int .i64 d.e] 30)).alloc (.cells #[.bool f.neg, .slice p' f.ds.length c', .int .i64 f.e] 30)) = W at *
  generalize hn : d.ds.length = n at *
  generalize hm : f.ds.length = m at *
  have K0 := Lib.hid k0
  have H1 := Lib.hid hb1
  have H2 := Lib.hid hb2
  have hvd : ∀ w', Kept (fun _ => False) w w' → DmAt w' (.agg #[.bool d.neg, .slice p n c, .int .i64 d.e]) d := fun w' hk => HV.out.old hk
  have hud : ∀ w', Kept (fun _ => False) w w' → DmAt w' (.agg #[.bool f.neg, .slice p' m c', .int .i64 f.e]) f := fun w' hk => HU.out.old hk
  have HVD := Lib.hid hvd
  have HUD := Lib.hid hud
  obtain ⟨c0, c1, c2⟩ := cells3 hb1
  obtain ⟨g0, g1, g2⟩ := cells3 hb2
  have hb1d : W.drew.heap[w.heap.size]? = _ := hb1
  have hb2d : W.drew.heap[w.heap.size + 1]? = _ := hb2
  obtain ⟨c0d, c1d, c2d⟩ := cells3 hb1d
  obtain ⟨g0d, g1d, g2d⟩ := cells3 hb2d
  have HLL := Lib.hid hl
  have HEE := Lib.hid he
  clear h g hs hs' hvd hud hb hb1 hb2 hb1d hb2d k0 e2 hl he
  have kd := K0.out.drew
  have KD := Lib.hid kd
  have H1d : Hid (W.drew.heap[w.heap.size]? = _) := H1
  have H2d : Hid (W.drew.heap[w.heap.size + 1]? = _) := H2
  have s1 := sgnD_b d
  have s2 := sgnD_b f
  clear kd
  go_enter Tryz.func34, Tryz.ntmps34
  go_wp2_with fail
  -- region
  refine start_ (n := 6) (S := fun w' => w'.cell? ⟨w.heap.size, 0, none⟩ = some (.bool d.neg) ∧ w'.cell? ⟨w.heap.size, 1, none⟩ = some (.slice p n c) ∧ w'.cell? ⟨w.heap.size, 2, none⟩ = some (.int .i64 d.e) ∧ w'.cell? ⟨w.heap.size + 1, 0, none⟩ = some (.bool f.neg) ∧ w'.cell? ⟨w.heap.size + 1, 1, none⟩ = some (.slice p' m c') ∧ w'.cell? ⟨w.heap.size + 1, 2, none⟩ = some (.int .i64 f.e)) (ds := []) #[false, false, false, false, false, false] (by kernel_rfl) rfl rfl ⟨c0d, c1d, c2d, g0d, g1d, g2d⟩ (fun hHeld => ?_)
  refine take_ (i := 0) (N := some 7) (v := ?_) (a' := ?_) #[true, false, false, false, false, false] rfl rfl (by kernel_rfl) (fun _ _ _ h => h) (Or.inl ⟨by rfl, ?_⟩) hHeld ?_ ?_
  rotate_left
  · rintro w' ⟨s0, s1, s2, s3, s4, s5⟩
    go_simp
    with_reducible rfl
  rotate_left
  · simp only [Act.put, List.setIfInBounds_toArray, List.set_cons_zero, List.set_cons_succ, i64_w, i32_w]
    rfl
  refine take_ (i := 2) (N := some 9) (v := ?_) (a' := ?_) #[true, false, true, false, false, false] rfl rfl (by kernel_rfl) (fun _ _ _ h => h) (Or.inl ⟨by rfl, ?_⟩) hHeld ?_ ?_
  rotate_left
  · rintro w' ⟨s0, s1, s2, s3, s4, s5⟩
    go_simp
    with_reducible rfl
  rotate_left
  · simp only [Act.put, List.setIfInBounds_toArray, List.set_cons_zero, List.set_cons_succ, i64_w, i32_w]
    rfl
  refine one_ (i := 1) (N := some 8) #[true, true, true, false, false, false] rfl rfl (by kernel_rfl) (by decide) (fun K hK => ?_)
  refine goes_ Tryz.func19 (by kernel_rfl) rfl #[(.agg #[.bool d.neg, .slice p n c, .int .i64 d.e])] (by rfl) rfl rfl (by simp only [List.map_toArray, List.map_cons, List.map_nil]; rfl) ?_
  with_reducible refine (DecimalSign_any _ d _ (HVD.out _ KD.out)).mono ?_
  rintro e w9 ⟨rfl, hk⟩
  have G1 := Lib.hid (hk.at H1d.out (fun f => f))
  have G2 := Lib.hid (hk.at H2d.out (fun f => f))
  obtain ⟨r0, r1, r2⟩ := cells3 G1.out
  obtain ⟨t0, t1, t2⟩ := cells3 G2.out
  have K9 := Lib.hid (KD.out.same hk)
  clear hk
  refine ⟨_, rfl, ?_⟩
  refine hK.out _ _ ⟨r0, r1, r2, t0, t1, t2⟩ (fun hHeld => ?_)
  clear hK K
  refine norm_ (a' := ?_) ?_ ?_
  rotate_left
  · show Act.put _ (some 8) _ = _
    simp only [Act.put, List.setIfInBounds_toArray, List.set_cons_zero, List.set_cons_succ, i64_w, i32_w]
    rfl
  refine one_ (i := 3) (N := some 10) #[true, true, true, true, false, false] rfl rfl (by kernel_rfl) (by decide) (fun K hK => ?_)
  refine goes_ Tryz.func19 (by kernel_rfl) rfl #[(.agg #[.bool f.neg, .slice p' m c', .int .i64 f.e])] (by rfl) rfl rfl (by simp only [List.map_toArray, List.map_cons, List.map_nil]; rfl) ?_
  with_reducible refine (DecimalSign_any _ f _ (HUD.out _ K9.out)).mono ?_
  rintro e w10 ⟨rfl, hk⟩
  have G3 := Lib.hid (hk.at G1.out (fun f => f))
  have G4 := Lib.hid (hk.at G2.out (fun f => f))
  obtain ⟨r0, r1, r2⟩ := cells3 G3.out
  obtain ⟨t0, t1, t2⟩ := cells3 G4.out
  have K10 := Lib.hid (K9.out.same hk)
  clear hk
  refine ⟨_, rfl, ?_⟩
  refine hK.out _ _ ⟨r0, r1, r2, t0, t1, t2⟩ (fun hHeld => ?_)
  clear hK K
  refine norm_ (a' := ?_) ?_ ?_
  rotate_left
  · show Act.put _ (some 10) _ = _
    simp only [Act.put, List.setIfInBounds_toArray, List.set_cons_zero, List.set_cons_succ, i64_w, i32_w]
    rfl
  refine pure_ (i := 4) (N := some 5) (v := ?_) (a' := ?_) #[true, true, true, true, true, false] rfl rfl (by kernel_rfl) (fun _ _ _ h => h) (Or.inl ⟨by rfl, ?_⟩) ?_ ?_
  rotate_left
  · intro w'
    go_simp
    with_reducible rfl
  rotate_left
  · simp only [Act.put, List.setIfInBounds_toArray, List.set_cons_zero, List.set_cons_succ, i64_w, i32_w]
    rfl
  refine pure_ (i := 5) (N := some 6) (v := ?_) (a' := ?_) #[true, true, true, true, true, true] rfl rfl (by kernel_rfl) (fun _ _ _ h => h) (Or.inl ⟨by rfl, ?_⟩) ?_ ?_
  rotate_left
  · intro w'
    go_simp
    with_reducible rfl
  rotate_left
  · simp only [Act.put, List.setIfInBounds_toArray, List.set_cons_zero, List.set_cons_succ, i64_w, i32_w]
    rfl
  refine done_ (by kernel_rfl) ?_

  have HCD : Hid (cmpD d f = if sgnD d = sgnD f then (if sgnD d < 0 then -lgr d f else if 0 < sgnD d then lgr d f else 0) else if sgnD d < sgnD f then -1 else 1) := rfl
  have hlb := lgr_b d f
  generalize cmpD d f = CD at *
  generalize sgnD d = x at *
  generalize sgnD f = y at *
  have HV2 := Lib.hid (HVD.out _ K10.out)
  have HU2 := Lib.hid (HUD.out _ K10.out)
  have HLG := Lib.hid (larger_any _ _ d f w10 HV2.out HU2.out (by rw [hn, hm]; exact HLL.out) HEE.out)
  generalize lgr d f = LG at *
  obtain ⟨u0, u1, u2⟩ := cells3 G3.out
  obtain ⟨y0, y1, y2⟩ := cells3 G4.out
  clear c0 c1 c2 g0 g1 g2 c0d c1d c2d g0d g1d g2d hHeld
  by_cases hxy : x = y
  · subst hxy
    have q1 : (x != x) = false := by simp
    by_cases hneg : x < 0
    · have E : Hid (CD = -LG) := by show CD = -LG; rw [HCD.out, if_pos rfl, if_pos hneg]
      go_wp2_with fail
      refine HLG.out.mono ?_
      rintro e w11 ⟨rfl, hk⟩
      have hw : IntKind.i64.wrap (-LG) = -LG := by rw [IntKind.wrap_i64]; omega
      go_wp2_with fail
      go_ret
      exact ⟨by rw [E.out]; rfl, K10.out.same hk⟩
    · by_cases hpos : 0 < x
      · have E : Hid (CD = LG) := by show CD = LG; rw [HCD.out, if_pos rfl, if_neg hneg, if_pos hpos]
        go_wp2_with fail
        refine HLG.out.mono ?_
        rintro e w11 ⟨rfl, hk⟩
        go_wp2_with fail
        go_ret
        exact ⟨by rw [E.out]; rfl, K10.out.same hk⟩
      · have E : Hid (CD = 0) := by show CD = 0; rw [HCD.out, if_pos rfl, if_neg hneg, if_neg hpos]
        go_wp2_with fail
        go_ret
        exact ⟨by rw [E.out]; rfl, K10.out⟩
  · have q1 : (x != y) = true := by simp [hxy]
    by_cases hlt : x < y
    · have E : Hid (CD = -1) := by show CD = -1; rw [HCD.out, if_neg hxy, if_pos hlt]
      go_wp2_with fail
      go_ret
      exact ⟨by rw [E.out]; rfl, K10.out⟩
    · have E : Hid (CD = 1) := by show CD = 1; rw [HCD.out, if_neg hxy, if_neg hlt]
      go_wp2_with fail
      go_ret
      exact ⟨by rw [E.out]; rfl, K10.out⟩
end Go.Proofs.YtjebnpkebccffaaGreatDoor
namespace Go.Proofs.YtjebnpkebccffaaGreatDoor
open Go.RowKit
open Go.Proofs.YtjebnpkebccffaaGreatDoorW.PrintLast
def BoolIs (w : World) (r : Bool) (e : Ending) (w' : World) : Prop := e = .returned (.bool r) ∧ Kept (fun _ => False) w w'
def maxD : Dm := decL (decide ((9223372036854775807 : Int) < 0)) (dgs (9223372036854775807 : Int).natAbs) 0
def mayD (d f : Dm) : Bool := (decide (d.ds.length = 0) || decide (-3 ≤ d.e)) && decide (cmpD ⟨false, d.ds, d.e⟩ f ≤ 0)
theorem cmpD_b (d f : Dm) : -1 ≤ cmpD d f ∧ cmpD d f ≤ 1 := by
  have := lgr_b d f
  unfold cmpD
  split
  · split
    · omega
    · split <;> omega
  · split <;> omega
set_option maxRecDepth 100000 in
set_option maxHeartbeats 4000000 in
theorem QuantityMay_any (v : Value) (d : Dm) (w : World) (h : DmAt w v d) (hl : d.ds.length ≤ 10000) (he : -10000 ≤ d.e ∧ d.e ≤ 10000) : Calls Tryz.prog 33 #[v] w (BoolIs w (mayD d maxD)) := by
  show Calls Tryz.prog 33 #[v] w (BoolIs w (mayD d (decL (decide ((9223372036854775807 : Int) < 0)) (dgs (9223372036854775807 : Int).natAbs) 0)))
  obtain ⟨p, c, b, rfl, hs⟩ := h.shape2
  generalize hn : d.ds.length = n at *
  have k0 : Kept (fun _ => False) w ((w.alloc (.cells #[.bool d.neg, .slice p n c, .int .i64 d.e] 30)).alloc (.cells #[.bool false, .slice p n c, .int .i64 d.e] 30)) := ((Kept.refl _ _).alloc _).alloc _
  have hb := heap_alloc_new w (.cells #[.bool d.neg, .slice p n c, .int .i64 d.e] 30)
  have hb1 := ((Kept.refl (fun _ => False) (w.alloc (.cells #[.bool d.neg, .slice p n c, .int .i64 d.e] 30))).alloc (.cells #[.bool false, .slice p n c, .int .i64 d.e] 30)).at hb (fun f => f)
  have hb2 := heap_alloc_new (w.alloc (.cells #[.bool d.neg, .slice p n c, .int .i64 d.e] 30)) (.cells #[.bool false, .slice p n c, .int .i64 d.e] 30)
  have e2 : (w.alloc (.cells #[.bool d.neg, .slice p n c, .int .i64 d.e] 30)).heap.size = w.heap.size + 1 := by simp
  rw [e2] at hb2
  generalize hW : ((w.alloc (.cells #[.bool d.neg, .slice p n c, .int .i64 d.e] 30)).alloc (.cells #[.bool false, .slice p n c, .int .i64 d.e] 30)) = W at *
  have KD := Lib.hid k0.drew
  have hb1d : W.drew.heap[w.heap.size]? = _ := hb1
  have hb2d : W.drew.heap[w.heap.size + 1]? = _ := hb2
  obtain ⟨c0d, c1d, c2d⟩ := cells3 hb1d
  obtain ⟨g0d, g1d, g2d⟩ := cells3 hb2d
  have H1d := Lib.hid hb1d
  have H2d := Lib.hid hb2d
  have hvd : ∀ w', Kept (fun _ => False) w w' → DmAt w' (.agg #[.bool false, .slice p n c, .int .i64 d.e]) ⟨false, d.ds, d.e⟩ := fun w' hk => ⟨_, b, rfl, hs.old hk⟩
  have HVD := Lib.hid hvd
  have HLL := Lib.hid hl
  have HEE := Lib.hid he
  have HD9 : Hid (DmB (decL (decide ((9223372036854775807 : Int) < 0)) (dgs (9223372036854775807 : Int).natAbs) 0) 20 (0 + (20 : Nat))) := decL_b (dgs_le 20 _ (by decide)).2 (dgs_le 20 _ (by decide)).1 (by omega) (by omega)
  generalize hD9 : decL (decide ((9223372036854775807 : Int) < 0)) (dgs (9223372036854775807 : Int).natAbs) 0 = D9 at *
  have hmd : mayD d D9 = ((decide (n = 0) || decide (-3 ≤ d.e)) && decide (cmpD ⟨false, d.ds, d.e⟩ D9 ≤ 0)) := by unfold mayD; rw [hn]
  have hcc : ∀ w' v9, DmAt w' (.agg #[.bool false, .slice p n c, .int .i64 d.e]) ⟨false, d.ds, d.e⟩ → DmAt w' v9 D9 → Calls Tryz.prog 34 #[.agg #[.bool false, .slice p n c, .int .i64 d.e], v9] w' (IntIs w' (cmpD ⟨false, d.ds, d.e⟩ D9)) := fun w' v9 h1 h2 =>
    DecimalCmp_any _ v9 ⟨false, d.ds, d.e⟩ D9 w' h1 h2 (by show d.ds.length ≤ 10000 ∧ _; rw [hn]; exact ⟨HLL.out, by have := HD9.out.len; omega⟩) (by have := HD9.out.lo; have := HD9.out.hi; have := HEE.out; exact ⟨by show _ ≤ d.e; omega, by show d.e ≤ _; omega, by omega, by omega⟩)
  have hcb := cmpD_b ⟨false, d.ds, d.e⟩ D9
  generalize cmpD ⟨false, d.ds, d.e⟩ D9 = C at *
  generalize mayD d D9 = MD at *
  have HCC := Lib.hid hcc
  have HMD := Lib.hid hmd
  clear hcc hmd
  clear h hs hvd hb hb1 hb2 hb1d hb2d k0 e2 hl he
  go_enter Tryz.func33, Tryz.ntmps33
  go_wp2_with fail
  clear hW
  by_cases hz : n = 0
  · have q1 : ((n : Int) == 0) = true := beqT (by omega)
    have HZ := Lib.hid hz
    clear hz
    refine start_ (n := 16) (S := fun w' => w'.cell? ⟨w.heap.size, 0, none⟩ = some (.bool d.neg) ∧ w'.cell? ⟨w.heap.size, 1, none⟩ = some (.slice p n c) ∧ w'.cell? ⟨w.heap.size, 2, none⟩ = some (.int .i64 d.e) ∧ w'.cell? ⟨w.heap.size + 1, 0, none⟩ = some (.bool false) ∧ w'.cell? ⟨w.heap.size + 1, 1, none⟩ = some (.slice p n c) ∧ w'.cell? ⟨w.heap.size + 1, 2, none⟩ = some (.int .i64 d.e)) (ds := []) #[false, false, false, false, false, false, false, false, false, false, false, false, false, false, false, false] (by kernel_rfl) rfl rfl ⟨c0d, c1d, c2d, g0d, g1d, g2d⟩ (fun hHeld => ?_)
    refine pure_ (i := 0) (N := some 6) (v := ?_) (a' := ?_) #[true, false, false, false, false, false, false, false, false, false, false, false, false, false, false, false] rfl rfl (by kernel_rfl) (fun _ _ _ h => h) (Or.inl ⟨by rfl, ?_⟩) ?_ ?_
    rotate_left
    · intro w'
      go_simp
      with_reducible rfl
    rotate_left
    · simp only [Act.put, List.setIfInBounds_toArray, List.set_cons_zero, List.set_cons_succ, i64_w, i32_w]
      rfl
    refine take_ (i := 1) (N := some 7) (v := ?_) (a' := ?_) #[true, true, false, false, false, false, false, false, false, false, false, false, false, false, false, false] rfl rfl (by kernel_rfl) (fun _ _ _ h => h) (Or.inl ⟨by rfl, ?_⟩) hHeld ?_ ?_
    rotate_left
    · rintro w' ⟨s0, s1, s2, s3, s4, s5⟩
      go_simp
      with_reducible rfl
    rotate_left
    · simp only [Act.put, List.setIfInBounds_toArray, List.set_cons_zero, List.set_cons_succ, i64_w, i32_w]
      rfl
    refine pure_ (i := 2) (N := some 8) (v := ?_) (a' := ?_) #[true, true, true, false, false, false, false, false, false, false, false, false, false, false, false, false] rfl rfl (by kernel_rfl) (fun _ _ _ h => h) (Or.inl ⟨by rfl, ?_⟩) ?_ ?_
    rotate_left
    · intro w'
      go_simp
      with_reducible rfl
    rotate_left
    · simp only [Act.put, List.setIfInBounds_toArray, List.set_cons_zero, List.set_cons_succ, i64_w, i32_w]
      rfl
    refine pure_ (i := 3) (N := some 9) (v := ?_) (a' := ?_) #[true, true, true, true, false, false, false, false, false, false, false, false, false, false, false, false] rfl rfl (by kernel_rfl) (fun _ _ _ h => h) (Or.inl ⟨by rfl, ?_⟩) ?_ ?_
    rotate_left
    · intro w'
      go_simp
      with_reducible rfl
    rotate_left
    · simp only [Act.put, List.setIfInBounds_toArray, List.set_cons_zero, List.set_cons_succ, i64_w, i32_w]
      rfl
    refine pure_ (i := 4) (N := some 10) (v := ?_) (a' := ?_) #[true, true, true, true, true, false, false, false, false, false, false, false, false, false, false, false] rfl rfl (by kernel_rfl) (fun _ _ _ h => h) (Or.inl ⟨by rfl, ?_⟩) ?_ ?_
    rotate_left
    · intro w'
      go_simp
      with_reducible rfl
    rotate_left
    · simp only [Act.put, List.setIfInBounds_toArray, List.set_cons_zero, List.set_cons_succ, i64_w, i32_w]
      rfl
    refine pure_ (i := 5) (N := some 11) (v := undef) (a' := ?_) #[true, true, true, true, true, true, false, false, false, false, false, false, false, false, false, false] rfl rfl (by kernel_rfl) (fun _ _ _ h => h) (Or.inr ⟨by rfl, rfl⟩) ?_ ?_
    rotate_left
    · simp only [Act.put, List.setIfInBounds_toArray, List.set_cons_zero, List.set_cons_succ, i64_w, i32_w]
      rfl
    refine pure_ (i := 6) (N := some 12) (v := undef) (a' := ?_) #[true, true, true, true, true, true, true, false, false, false, false, false, false, false, false, false] rfl rfl (by kernel_rfl) (fun _ _ _ h => h) (Or.inr ⟨by rfl, rfl⟩) ?_ ?_
    rotate_left
    · simp only [Act.put, List.setIfInBounds_toArray, List.set_cons_zero, List.set_cons_succ, i64_w, i32_w]
      rfl
    refine pure_ (i := 7) (N := some 13) (v := undef) (a' := ?_) #[true, true, true, true, true, true, true, true, false, false, false, false, false, false, false, false] rfl rfl (by kernel_rfl) (fun _ _ _ h => h) (Or.inr ⟨by rfl, rfl⟩) ?_ ?_
    rotate_left
    · simp only [Act.put, List.setIfInBounds_toArray, List.set_cons_zero, List.set_cons_succ, i64_w, i32_w]
      rfl
    refine pure_ (i := 8) (N := some 14) (v := ?_) (a' := ?_) #[true, true, true, true, true, true, true, true, true, false, false, false, false, false, false, false] rfl rfl (by kernel_rfl) (fun _ _ _ h => h) (Or.inl ⟨by rfl, ?_⟩) ?_ ?_
    rotate_left
    · intro w'
      go_simp
      with_reducible rfl
    rotate_left
    · simp only [Act.put, List.setIfInBounds_toArray, List.set_cons_zero, List.set_cons_succ, i64_w, i32_w]
      rfl
    refine pure_ (i := 9) (N := some 15) (v := ?_) (a' := ?_) #[true, true, true, true, true, true, true, true, true, true, false, false, false, false, false, false] rfl rfl (by kernel_rfl) (fun _ _ _ h => h) (Or.inl ⟨by rfl, ?_⟩) ?_ ?_
    rotate_left
    · intro w'
      go_simp
      with_reducible rfl
    rotate_left
    · simp only [Act.put, List.setIfInBounds_toArray, List.set_cons_zero, List.set_cons_succ, i64_w, i32_w]
      rfl
    refine take_ (i := 10) (N := some 16) (v := ?_) (a' := ?_) #[true, true, true, true, true, true, true, true, true, true, true, false, false, false, false, false] rfl rfl (by kernel_rfl) (fun _ _ _ h => h) (Or.inl ⟨by rfl, ?_⟩) hHeld ?_ ?_
    rotate_left
    · rintro w' ⟨s0, s1, s2, s3, s4, s5⟩
      go_simp
      with_reducible rfl
    rotate_left
    · simp only [Act.put, List.setIfInBounds_toArray, List.set_cons_zero, List.set_cons_succ, i64_w, i32_w]
      rfl
    refine one_ (i := 11) (N := some 17) #[true, true, true, true, true, true, true, true, true, true, true, true, false, false, false, false] rfl rfl (by kernel_rfl) (by decide) (fun K hK => ?_)
    refine goes_ Tryz.func14 (by kernel_rfl) rfl #[.int .i64 9223372036854775807, .int .i64 0] (by rfl) rfl rfl (by simp only [List.map_toArray, List.map_cons, List.map_nil]; rfl) ?_
    with_reducible refine (DecimalOf_any 9223372036854775807 0 _ (by omega) (by omega)).mono ?_
    rintro e w9 ⟨v9, rfl, hv9, hk⟩
    have G1 := Lib.hid (hk.at H1d.out (fun f => f))
    have G2 := Lib.hid (hk.at H2d.out (fun f => f))
    obtain ⟨r0, r1, r2⟩ := cells3 G1.out
    obtain ⟨t0, t1, t2⟩ := cells3 G2.out
    have K9 := Lib.hid (KD.out.same hk)
    rw [hD9] at hv9
    obtain ⟨p9, c9, b9, rfl, hs9⟩ := hv9.shape2
    have V9 := Lib.hid hv9
    clear hk hv9
    refine ⟨_, rfl, ?_⟩
    refine hK.out _ _ ⟨r0, r1, r2, t0, t1, t2⟩ (fun hHeld => ?_)
    clear hK K
    refine norm_ (a' := ?_) ?_ ?_
    rotate_left
    · show Act.put _ (some 17) _ = _
      simp only [Act.put, List.setIfInBounds_toArray, List.set_cons_zero, List.set_cons_succ, i64_w, i32_w]
      rfl
    refine one_ (i := 12) (N := some 18) #[true, true, true, true, true, true, true, true, true, true, true, true, true, false, false, false] rfl rfl (by kernel_rfl) (by decide) (fun K hK => ?_)
    refine goes_ Tryz.func34 (by kernel_rfl) rfl #[.agg #[.bool false, .slice p n c, .int .i64 d.e], .agg #[.bool D9.neg, .slice p9 D9.ds.length c9, .int .i64 D9.e]] (by rfl) rfl rfl (by simp only [List.map_toArray, List.map_cons, List.map_nil]; rfl) ?_
    with_reducible refine (HCC.out _ _ (HVD.out _ K9.out) V9.out).mono ?_
    rintro e w10 ⟨rfl, hk⟩
    have G3 := Lib.hid (hk.at G1.out (fun f => f))
    have G4 := Lib.hid (hk.at G2.out (fun f => f))
    obtain ⟨r0, r1, r2⟩ := cells3 G3.out
    obtain ⟨t0, t1, t2⟩ := cells3 G4.out
    have K10 := Lib.hid (K9.out.same hk)
    clear hk
    refine ⟨_, rfl, ?_⟩
    refine hK.out _ _ ⟨r0, r1, r2, t0, t1, t2⟩ (fun hHeld => ?_)
    clear hK K
    refine norm_ (a' := ?_) ?_ ?_
    rotate_left
    · show Act.put _ (some 18) _ = _
      simp only [Act.put, List.setIfInBounds_toArray, List.set_cons_zero, List.set_cons_succ, i64_w, i32_w]
      rfl
    refine pure_ (i := 13) (N := some 19) (v := ?_) (a' := ?_) #[true, true, true, true, true, true, true, true, true, true, true, true, true, true, false, false] rfl rfl (by kernel_rfl) (fun _ _ _ h => h) (Or.inl ⟨by rfl, ?_⟩) ?_ ?_
    rotate_left
    · intro w'
      go_simp
      with_reducible rfl
    rotate_left
    · simp only [Act.put, List.setIfInBounds_toArray, List.set_cons_zero, List.set_cons_succ, i64_w, i32_w]
      rfl
    refine pure_ (i := 14) (N := some 20) (v := ?_) (a' := ?_) #[true, true, true, true, true, true, true, true, true, true, true, true, true, true, true, false] rfl rfl (by kernel_rfl) (fun _ _ _ h => h) (Or.inl ⟨by rfl, ?_⟩) ?_ ?_
    rotate_left
    · intro w'
      go_simp
      with_reducible rfl
    rotate_left
    · simp only [Act.put, List.setIfInBounds_toArray, List.set_cons_zero, List.set_cons_succ, i64_w, i32_w]
      rfl
    refine pure_ (i := 15) (N := some 2) (v := ?_) (a' := ?_) #[true, true, true, true, true, true, true, true, true, true, true, true, true, true, true, true] rfl rfl (by kernel_rfl) (fun _ _ _ h => h) (Or.inl ⟨by rfl, ?_⟩) ?_ ?_
    rotate_left
    · intro w'
      go_simp
      with_reducible rfl
    rotate_left
    · simp only [Act.put, List.setIfInBounds_toArray, List.set_cons_zero, List.set_cons_succ, i64_w, i32_w]
      rfl
    refine done_ (by kernel_rfl) ?_

    go_wp2_with fail
    go_ret
    exact ⟨by rw [HMD.out]; simp [HZ.out], K10.out⟩
  · have q1 : ((n : Int) == 0) = false := beqF (by omega)
    have q1' : decide (n = 0) = false := decide_eq_false hz
    by_cases hlo : -3 ≤ d.e
    · have q2 : decide (-3 ≤ d.e) = true := decT hlo
      clear hz hlo
      refine start_ (n := 16) (S := fun w' => w'.cell? ⟨w.heap.size, 0, none⟩ = some (.bool d.neg) ∧ w'.cell? ⟨w.heap.size, 1, none⟩ = some (.slice p n c) ∧ w'.cell? ⟨w.heap.size, 2, none⟩ = some (.int .i64 d.e) ∧ w'.cell? ⟨w.heap.size + 1, 0, none⟩ = some (.bool false) ∧ w'.cell? ⟨w.heap.size + 1, 1, none⟩ = some (.slice p n c) ∧ w'.cell? ⟨w.heap.size + 1, 2, none⟩ = some (.int .i64 d.e)) (ds := []) #[false, false, false, false, false, false, false, false, false, false, false, false, false, false, false, false] (by kernel_rfl) rfl rfl ⟨c0d, c1d, c2d, g0d, g1d, g2d⟩ (fun hHeld => ?_)
      refine pure_ (i := 0) (N := some 6) (v := ?_) (a' := ?_) #[true, false, false, false, false, false, false, false, false, false, false, false, false, false, false, false] rfl rfl (by kernel_rfl) (fun _ _ _ h => h) (Or.inl ⟨by rfl, ?_⟩) ?_ ?_
      rotate_left
      · intro w'
        go_simp
        with_reducible rfl
      rotate_left
      · simp only [Act.put, List.setIfInBounds_toArray, List.set_cons_zero, List.set_cons_succ, i64_w, i32_w]
        rfl
      refine take_ (i := 1) (N := some 7) (v := ?_) (a' := ?_) #[true, true, false, false, false, false, false, false, false, false, false, false, false, false, false, false] rfl rfl (by kernel_rfl) (fun _ _ _ h => h) (Or.inl ⟨by rfl, ?_⟩) hHeld ?_ ?_
      rotate_left
      · rintro w' ⟨s0, s1, s2, s3, s4, s5⟩
        go_simp
        with_reducible rfl
      rotate_left
      · simp only [Act.put, List.setIfInBounds_toArray, List.set_cons_zero, List.set_cons_succ, i64_w, i32_w]
        rfl
      refine pure_ (i := 2) (N := some 8) (v := ?_) (a' := ?_) #[true, true, true, false, false, false, false, false, false, false, false, false, false, false, false, false] rfl rfl (by kernel_rfl) (fun _ _ _ h => h) (Or.inl ⟨by rfl, ?_⟩) ?_ ?_
      rotate_left
      · intro w'
        go_simp
        with_reducible rfl
      rotate_left
      · simp only [Act.put, List.setIfInBounds_toArray, List.set_cons_zero, List.set_cons_succ, i64_w, i32_w]
        rfl
      refine pure_ (i := 3) (N := some 9) (v := ?_) (a' := ?_) #[true, true, true, true, false, false, false, false, false, false, false, false, false, false, false, false] rfl rfl (by kernel_rfl) (fun _ _ _ h => h) (Or.inl ⟨by rfl, ?_⟩) ?_ ?_
      rotate_left
      · intro w'
        go_simp
        with_reducible rfl
      rotate_left
      · simp only [Act.put, List.setIfInBounds_toArray, List.set_cons_zero, List.set_cons_succ, i64_w, i32_w]
        rfl
      refine pure_ (i := 4) (N := some 10) (v := ?_) (a' := ?_) #[true, true, true, true, true, false, false, false, false, false, false, false, false, false, false, false] rfl rfl (by kernel_rfl) (fun _ _ _ h => h) (Or.inl ⟨by rfl, ?_⟩) ?_ ?_
      rotate_left
      · intro w'
        go_simp
        with_reducible rfl
      rotate_left
      · simp only [Act.put, List.setIfInBounds_toArray, List.set_cons_zero, List.set_cons_succ, i64_w, i32_w]
        rfl
      refine pure_ (i := 5) (N := some 11) (v := ?_) (a' := ?_) #[true, true, true, true, true, true, false, false, false, false, false, false, false, false, false, false] rfl rfl (by kernel_rfl) (fun _ _ _ h => h) (Or.inl ⟨by rfl, ?_⟩) ?_ ?_
      rotate_left
      · intro w'
        go_simp
        with_reducible rfl
      rotate_left
      · simp only [Act.put, List.setIfInBounds_toArray, List.set_cons_zero, List.set_cons_succ, i64_w, i32_w]
        rfl
      refine take_ (i := 6) (N := some 12) (v := ?_) (a' := ?_) #[true, true, true, true, true, true, true, false, false, false, false, false, false, false, false, false] rfl rfl (by kernel_rfl) (fun _ _ _ h => h) (Or.inl ⟨by rfl, ?_⟩) hHeld ?_ ?_
      rotate_left
      · rintro w' ⟨s0, s1, s2, s3, s4, s5⟩
        go_simp
        with_reducible rfl
      rotate_left
      · simp only [Act.put, List.setIfInBounds_toArray, List.set_cons_zero, List.set_cons_succ, i64_w, i32_w]
        rfl
      refine pure_ (i := 7) (N := some 13) (v := ?_) (a' := ?_) #[true, true, true, true, true, true, true, true, false, false, false, false, false, false, false, false] rfl rfl (by kernel_rfl) (fun _ _ _ h => h) (Or.inl ⟨by rfl, ?_⟩) ?_ ?_
      rotate_left
      · intro w'
        go_simp
        with_reducible rfl
      rotate_left
      · simp only [Act.put, List.setIfInBounds_toArray, List.set_cons_zero, List.set_cons_succ, i64_w, i32_w]
        rfl
      refine pure_ (i := 8) (N := some 14) (v := ?_) (a' := ?_) #[true, true, true, true, true, true, true, true, true, false, false, false, false, false, false, false] rfl rfl (by kernel_rfl) (fun _ _ _ h => h) (Or.inl ⟨by rfl, ?_⟩) ?_ ?_
      rotate_left
      · intro w'
        go_simp
        with_reducible rfl
      rotate_left
      · simp only [Act.put, List.setIfInBounds_toArray, List.set_cons_zero, List.set_cons_succ, i64_w, i32_w]
        rfl
      refine pure_ (i := 9) (N := some 15) (v := ?_) (a' := ?_) #[true, true, true, true, true, true, true, true, true, true, false, false, false, false, false, false] rfl rfl (by kernel_rfl) (fun _ _ _ h => h) (Or.inl ⟨by rfl, ?_⟩) ?_ ?_
      rotate_left
      · intro w'
        go_simp
        with_reducible rfl
      rotate_left
      · simp only [Act.put, List.setIfInBounds_toArray, List.set_cons_zero, List.set_cons_succ, i64_w, i32_w]
        rfl
      refine take_ (i := 10) (N := some 16) (v := ?_) (a' := ?_) #[true, true, true, true, true, true, true, true, true, true, true, false, false, false, false, false] rfl rfl (by kernel_rfl) (fun _ _ _ h => h) (Or.inl ⟨by rfl, ?_⟩) hHeld ?_ ?_
      rotate_left
      · rintro w' ⟨s0, s1, s2, s3, s4, s5⟩
        go_simp
        with_reducible rfl
      rotate_left
      · simp only [Act.put, List.setIfInBounds_toArray, List.set_cons_zero, List.set_cons_succ, i64_w, i32_w]
        rfl
      refine one_ (i := 11) (N := some 17) #[true, true, true, true, true, true, true, true, true, true, true, true, false, false, false, false] rfl rfl (by kernel_rfl) (by decide) (fun K hK => ?_)
      refine goes_ Tryz.func14 (by kernel_rfl) rfl #[.int .i64 9223372036854775807, .int .i64 0] (by rfl) rfl rfl (by simp only [List.map_toArray, List.map_cons, List.map_nil]; rfl) ?_
      with_reducible refine (DecimalOf_any 9223372036854775807 0 _ (by omega) (by omega)).mono ?_
      rintro e w9 ⟨v9, rfl, hv9, hk⟩
      have G1 := Lib.hid (hk.at H1d.out (fun f => f))
      have G2 := Lib.hid (hk.at H2d.out (fun f => f))
      obtain ⟨r0, r1, r2⟩ := cells3 G1.out
      obtain ⟨t0, t1, t2⟩ := cells3 G2.out
      have K9 := Lib.hid (KD.out.same hk)
      rw [hD9] at hv9
      obtain ⟨p9, c9, b9, rfl, hs9⟩ := hv9.shape2
      have V9 := Lib.hid hv9
      clear hk hv9
      refine ⟨_, rfl, ?_⟩
      refine hK.out _ _ ⟨r0, r1, r2, t0, t1, t2⟩ (fun hHeld => ?_)
      clear hK K
      refine norm_ (a' := ?_) ?_ ?_
      rotate_left
      · show Act.put _ (some 17) _ = _
        simp only [Act.put, List.setIfInBounds_toArray, List.set_cons_zero, List.set_cons_succ, i64_w, i32_w]
        rfl
      refine one_ (i := 12) (N := some 18) #[true, true, true, true, true, true, true, true, true, true, true, true, true, false, false, false] rfl rfl (by kernel_rfl) (by decide) (fun K hK => ?_)
      refine goes_ Tryz.func34 (by kernel_rfl) rfl #[.agg #[.bool false, .slice p n c, .int .i64 d.e], .agg #[.bool D9.neg, .slice p9 D9.ds.length c9, .int .i64 D9.e]] (by rfl) rfl rfl (by simp only [List.map_toArray, List.map_cons, List.map_nil]; rfl) ?_
      with_reducible refine (HCC.out _ _ (HVD.out _ K9.out) V9.out).mono ?_
      rintro e w10 ⟨rfl, hk⟩
      have G3 := Lib.hid (hk.at G1.out (fun f => f))
      have G4 := Lib.hid (hk.at G2.out (fun f => f))
      obtain ⟨r0, r1, r2⟩ := cells3 G3.out
      obtain ⟨t0, t1, t2⟩ := cells3 G4.out
      have K10 := Lib.hid (K9.out.same hk)
      clear hk
      refine ⟨_, rfl, ?_⟩
      refine hK.out _ _ ⟨r0, r1, r2, t0, t1, t2⟩ (fun hHeld => ?_)
      clear hK K
      refine norm_ (a' := ?_) ?_ ?_
      rotate_left
      · show Act.put _ (some 18) _ = _
        simp only [Act.put, List.setIfInBounds_toArray, List.set_cons_zero, List.set_cons_succ, i64_w, i32_w]
        rfl
      refine pure_ (i := 13) (N := some 19) (v := ?_) (a' := ?_) #[true, true, true, true, true, true, true, true, true, true, true, true, true, true, false, false] rfl rfl (by kernel_rfl) (fun _ _ _ h => h) (Or.inl ⟨by rfl, ?_⟩) ?_ ?_
      rotate_left
      · intro w'
        go_simp
        with_reducible rfl
      rotate_left
      · simp only [Act.put, List.setIfInBounds_toArray, List.set_cons_zero, List.set_cons_succ, i64_w, i32_w]
        rfl
      refine pure_ (i := 14) (N := some 20) (v := ?_) (a' := ?_) #[true, true, true, true, true, true, true, true, true, true, true, true, true, true, true, false] rfl rfl (by kernel_rfl) (fun _ _ _ h => h) (Or.inl ⟨by rfl, ?_⟩) ?_ ?_
      rotate_left
      · intro w'
        go_simp
        with_reducible rfl
      rotate_left
      · simp only [Act.put, List.setIfInBounds_toArray, List.set_cons_zero, List.set_cons_succ, i64_w, i32_w]
        rfl
      refine pure_ (i := 15) (N := some 2) (v := ?_) (a' := ?_) #[true, true, true, true, true, true, true, true, true, true, true, true, true, true, true, true] rfl rfl (by kernel_rfl) (fun _ _ _ h => h) (Or.inl ⟨by rfl, ?_⟩) ?_ ?_
      rotate_left
      · intro w'
        go_simp
        with_reducible rfl
      rotate_left
      · simp only [Act.put, List.setIfInBounds_toArray, List.set_cons_zero, List.set_cons_succ, i64_w, i32_w]
        rfl
      refine done_ (by kernel_rfl) ?_

      go_wp2_with fail
      go_ret
      exact ⟨by rw [HMD.out, q2]; simp, K10.out⟩
    · have q2 : decide (-3 ≤ d.e) = false := decF hlo
      clear hz hlo
      refine start_ (n := 16) (S := fun w' => w'.cell? ⟨w.heap.size, 0, none⟩ = some (.bool d.neg) ∧ w'.cell? ⟨w.heap.size, 1, none⟩ = some (.slice p n c) ∧ w'.cell? ⟨w.heap.size, 2, none⟩ = some (.int .i64 d.e) ∧ w'.cell? ⟨w.heap.size + 1, 0, none⟩ = some (.bool false) ∧ w'.cell? ⟨w.heap.size + 1, 1, none⟩ = some (.slice p n c) ∧ w'.cell? ⟨w.heap.size + 1, 2, none⟩ = some (.int .i64 d.e)) (ds := []) #[false, false, false, false, false, false, false, false, false, false, false, false, false, false, false, false] (by kernel_rfl) rfl rfl ⟨c0d, c1d, c2d, g0d, g1d, g2d⟩ (fun hHeld => ?_)
      refine pure_ (i := 0) (N := some 6) (v := ?_) (a' := ?_) #[true, false, false, false, false, false, false, false, false, false, false, false, false, false, false, false] rfl rfl (by kernel_rfl) (fun _ _ _ h => h) (Or.inl ⟨by rfl, ?_⟩) ?_ ?_
      rotate_left
      · intro w'
        go_simp
        with_reducible rfl
      rotate_left
      · simp only [Act.put, List.setIfInBounds_toArray, List.set_cons_zero, List.set_cons_succ, i64_w, i32_w]
        rfl
      refine take_ (i := 1) (N := some 7) (v := ?_) (a' := ?_) #[true, true, false, false, false, false, false, false, false, false, false, false, false, false, false, false] rfl rfl (by kernel_rfl) (fun _ _ _ h => h) (Or.inl ⟨by rfl, ?_⟩) hHeld ?_ ?_
      rotate_left
      · rintro w' ⟨s0, s1, s2, s3, s4, s5⟩
        go_simp
        with_reducible rfl
      rotate_left
      · simp only [Act.put, List.setIfInBounds_toArray, List.set_cons_zero, List.set_cons_succ, i64_w, i32_w]
        rfl
      refine pure_ (i := 2) (N := some 8) (v := ?_) (a' := ?_) #[true, true, true, false, false, false, false, false, false, false, false, false, false, false, false, false] rfl rfl (by kernel_rfl) (fun _ _ _ h => h) (Or.inl ⟨by rfl, ?_⟩) ?_ ?_
      rotate_left
      · intro w'
        go_simp
        with_reducible rfl
      rotate_left
      · simp only [Act.put, List.setIfInBounds_toArray, List.set_cons_zero, List.set_cons_succ, i64_w, i32_w]
        rfl
      refine pure_ (i := 3) (N := some 9) (v := ?_) (a' := ?_) #[true, true, true, true, false, false, false, false, false, false, false, false, false, false, false, false] rfl rfl (by kernel_rfl) (fun _ _ _ h => h) (Or.inl ⟨by rfl, ?_⟩) ?_ ?_
      rotate_left
      · intro w'
        go_simp
        with_reducible rfl
      rotate_left
      · simp only [Act.put, List.setIfInBounds_toArray, List.set_cons_zero, List.set_cons_succ, i64_w, i32_w]
        rfl
      refine pure_ (i := 4) (N := some 10) (v := ?_) (a' := ?_) #[true, true, true, true, true, false, false, false, false, false, false, false, false, false, false, false] rfl rfl (by kernel_rfl) (fun _ _ _ h => h) (Or.inl ⟨by rfl, ?_⟩) ?_ ?_
      rotate_left
      · intro w'
        go_simp
        with_reducible rfl
      rotate_left
      · simp only [Act.put, List.setIfInBounds_toArray, List.set_cons_zero, List.set_cons_succ, i64_w, i32_w]
        rfl
      refine pure_ (i := 5) (N := some 11) (v := ?_) (a' := ?_) #[true, true, true, true, true, true, false, false, false, false, false, false, false, false, false, false] rfl rfl (by kernel_rfl) (fun _ _ _ h => h) (Or.inl ⟨by rfl, ?_⟩) ?_ ?_
      rotate_left
      · intro w'
        go_simp
        with_reducible rfl
      rotate_left
      · simp only [Act.put, List.setIfInBounds_toArray, List.set_cons_zero, List.set_cons_succ, i64_w, i32_w]
        rfl
      refine take_ (i := 6) (N := some 12) (v := ?_) (a' := ?_) #[true, true, true, true, true, true, true, false, false, false, false, false, false, false, false, false] rfl rfl (by kernel_rfl) (fun _ _ _ h => h) (Or.inl ⟨by rfl, ?_⟩) hHeld ?_ ?_
      rotate_left
      · rintro w' ⟨s0, s1, s2, s3, s4, s5⟩
        go_simp
        with_reducible rfl
      rotate_left
      · simp only [Act.put, List.setIfInBounds_toArray, List.set_cons_zero, List.set_cons_succ, i64_w, i32_w]
        rfl
      refine pure_ (i := 7) (N := some 13) (v := ?_) (a' := ?_) #[true, true, true, true, true, true, true, true, false, false, false, false, false, false, false, false] rfl rfl (by kernel_rfl) (fun _ _ _ h => h) (Or.inl ⟨by rfl, ?_⟩) ?_ ?_
      rotate_left
      · intro w'
        go_simp
        with_reducible rfl
      rotate_left
      · simp only [Act.put, List.setIfInBounds_toArray, List.set_cons_zero, List.set_cons_succ, i64_w, i32_w]
        rfl
      refine pure_ (i := 8) (N := some 14) (v := ?_) (a' := ?_) #[true, true, true, true, true, true, true, true, true, false, false, false, false, false, false, false] rfl rfl (by kernel_rfl) (fun _ _ _ h => h) (Or.inl ⟨by rfl, ?_⟩) ?_ ?_
      rotate_left
      · intro w'
        go_simp
        with_reducible rfl
      rotate_left
      · simp only [Act.put, List.setIfInBounds_toArray, List.set_cons_zero, List.set_cons_succ, i64_w, i32_w]
        rfl
      refine pure_ (i := 9) (N := some 15) (v := ?_) (a' := ?_) #[true, true, true, true, true, true, true, true, true, true, false, false, false, false, false, false] rfl rfl (by kernel_rfl) (fun _ _ _ h => h) (Or.inl ⟨by rfl, ?_⟩) ?_ ?_
      rotate_left
      · intro w'
        go_simp
        with_reducible rfl
      rotate_left
      · simp only [Act.put, List.setIfInBounds_toArray, List.set_cons_zero, List.set_cons_succ, i64_w, i32_w]
        rfl
      refine pure_ (i := 10) (N := some 16) (v := undef) (a' := ?_) #[true, true, true, true, true, true, true, true, true, true, true, false, false, false, false, false] rfl rfl (by kernel_rfl) (fun _ _ _ h => h) (Or.inr ⟨by rfl, rfl⟩) ?_ ?_
      rotate_left
      · simp only [Act.put, List.setIfInBounds_toArray, List.set_cons_zero, List.set_cons_succ, i64_w, i32_w]
        rfl
      refine pure_ (i := 11) (N := some 17) (v := undef) (a' := ?_) #[true, true, true, true, true, true, true, true, true, true, true, true, false, false, false, false] rfl rfl (by kernel_rfl) (fun _ _ _ h => h) (Or.inr ⟨by rfl, rfl⟩) ?_ ?_
      rotate_left
      · simp only [Act.put, List.setIfInBounds_toArray, List.set_cons_zero, List.set_cons_succ, i64_w, i32_w]
        rfl
      refine pure_ (i := 12) (N := some 18) (v := undef) (a' := ?_) #[true, true, true, true, true, true, true, true, true, true, true, true, true, false, false, false] rfl rfl (by kernel_rfl) (fun _ _ _ h => h) (Or.inr ⟨by rfl, rfl⟩) ?_ ?_
      rotate_left
      · simp only [Act.put, List.setIfInBounds_toArray, List.set_cons_zero, List.set_cons_succ, i64_w, i32_w]
        rfl
      refine pure_ (i := 13) (N := some 19) (v := undef) (a' := ?_) #[true, true, true, true, true, true, true, true, true, true, true, true, true, true, false, false] rfl rfl (by kernel_rfl) (fun _ _ _ h => h) (Or.inr ⟨by rfl, rfl⟩) ?_ ?_
      rotate_left
      · simp only [Act.put, List.setIfInBounds_toArray, List.set_cons_zero, List.set_cons_succ, i64_w, i32_w]
        rfl
      refine pure_ (i := 14) (N := some 20) (v := ?_) (a' := ?_) #[true, true, true, true, true, true, true, true, true, true, true, true, true, true, true, false] rfl rfl (by kernel_rfl) (fun _ _ _ h => h) (Or.inl ⟨by rfl, ?_⟩) ?_ ?_
      rotate_left
      · intro w'
        go_simp
        with_reducible rfl
      rotate_left
      · simp only [Act.put, List.setIfInBounds_toArray, List.set_cons_zero, List.set_cons_succ, i64_w, i32_w]
        rfl
      refine pure_ (i := 15) (N := some 2) (v := ?_) (a' := ?_) #[true, true, true, true, true, true, true, true, true, true, true, true, true, true, true, true] rfl rfl (by kernel_rfl) (fun _ _ _ h => h) (Or.inl ⟨by rfl, ?_⟩) ?_ ?_
      rotate_left
      · intro w'
        go_simp
        with_reducible rfl
      rotate_left
      · simp only [Act.put, List.setIfInBounds_toArray, List.set_cons_zero, List.set_cons_succ, i64_w, i32_w]
        rfl
      refine done_ (by kernel_rfl) ?_

      go_wp2_with fail
      go_ret
      exact ⟨by rw [HMD.out, q2, q1']; rfl, KD.out⟩
end Go.Proofs.YtjebnpkebccffaaGreatDoor
