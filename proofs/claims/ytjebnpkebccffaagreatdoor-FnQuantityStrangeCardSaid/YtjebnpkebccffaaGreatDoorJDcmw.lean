import Derived.Test.YtjebnpkebccffaaGreatDoorJNs
import Derived.Test.YtjebnpkebccffaaGreatDoorWLast
import Derived.BigQuiet
set_option linter.unusedSimpArgs false
set_option linter.unusedVariables false
set_option linter.unusedSectionVars false
namespace Go.Proofs.YtjebnpkebccffaaGreatDoor
open Go.RowKit
open Go.Proofs.YtjebnpkebccffaaGreatDoorW.PrintLast
def SomeInt (w : World) (e : Ending) (w' : World) : Prop := (∃ k : Int, e = .returned (.int .i64 k) ∧ -1 ≤ k ∧ k ≤ 1) ∧ Kept (fun _ => False) w w'
set_option maxRecDepth 100000 in
set_option maxHeartbeats 4000000 in
/-- larger answers (what, is not said). -/
theorem larger_some (v u : Value) (d f : Dm) (w : World) (h : DmAt w v d) (g : DmAt w u f) (hl : d.ds.length ≤ 10000 ∧ f.ds.length ≤ 10000) (he : -10000 ≤ d.e ∧ d.e ≤ 10000 ∧ -10000 ≤ f.e ∧ f.e ≤ 10000) :
    Calls Tryz.prog 43 #[v, u] w (SomeInt w) := by
  obtain ⟨p, c, b, rfl, hs⟩ := h.shape2
  obtain ⟨p', c', b', rfl, hs'⟩ := g.shape2
  have k0 : Kept (fun _ => False) w ((w.alloc (.cells #[.bool d.neg, .slice p d.ds.length c, .int .i64 d.e] 30)).alloc (.cells #[.bool f.neg, .slice p' f.ds.length c', .int .i64 f.e] 30)) := ((Kept.refl _ _).alloc _).alloc _
  have hb := heap_alloc_new w (.cells #[.bool d.neg, .slice p d.ds.length c, .int .i64 d.e] 30)
  have hb1 := ((Kept.refl (fun _ => False) (w.alloc (.cells #[.bool d.neg, .slice p d.ds.length c, .int .i64 d.e] 30))).alloc (.cells #[.bool f.neg, .slice p' f.ds.length c', .int .i64 f.e] 30)).at hb (fun f => f)
  have hb2 := heap_alloc_new (w.alloc (.cells #[.bool d.neg, .slice p d.ds.length c, .int .i64 d.e] 30)) (.cells #[.bool f.neg, .slice p' f.ds.length c', .int .i64 f.e] 30)
  have e2 : (w.alloc (.cells #[.bool d.neg, .slice p d.ds.length c, .int .i64 d.e] 30)).heap.size = w.heap.size + 1 := by simp
  rw [e2] at hb2
  have hsA := hs.old k0
  have hsB := hs'.old k0
  generalize hW : ((w.alloc (.cells #[.bool d.neg, .slice p d.ds.length c, .int .i64 d.e] 30)).alloc (.cells #[.bool f.neg, .slice p' f.ds.length c', .int .i64 f.e] 30)) = W at *
  have K0 := Lib.hid k0
  obtain ⟨c0, c1, c2⟩ := cells3 hb1
  obtain ⟨g0, g1, g2⟩ := cells3 hb2
  have hb1d : W.drew.heap[w.heap.size]? = _ := hb1
  have hb2d : W.drew.heap[w.heap.size + 1]? = _ := hb2
  obtain ⟨c0d, c1d, c2d⟩ := cells3 hb1d
  obtain ⟨g0d, g1d, g2d⟩ := cells3 hb2d
  generalize hn : d.ds.length = n at *
  generalize hm : f.ds.length = m at *
  have hx : ∀ i, i < n → ∃ k o y, p = some ⟨k, o, none⟩ ∧ W.cell? ⟨k, o + i, none⟩ = some (.int .i64 y) := by
    intro i hi
    cases b with
    | none => rw [hsA.2] at hn; simp at hn; omega
    | some k =>
      obtain ⟨o, cap, cs, h1, h2, h3, h4, h5⟩ := hsA
      injection h1 with h1
      exact ⟨k, o, _, h1, by rw [cell_of h4]; exact h5 i (by omega)⟩
  have hy : ∀ i, i < m → ∃ k o y, p' = some ⟨k, o, none⟩ ∧ W.cell? ⟨k, o + i, none⟩ = some (.int .i64 y) := by
    intro i hi
    cases b' with
    | none => rw [hsB.2] at hm; simp at hm; omega
    | some k =>
      obtain ⟨o, cap, cs, h1, h2, h3, h4, h5⟩ := hsB
      injection h1 with h1
      exact ⟨k, o, _, h1, by rw [cell_of h4]; exact h5 i (by omega)⟩
  have HX := Lib.hid hx
  have HL := Lib.hid hl
  have HY := Lib.hid hy
  clear hb hb1 hb2 hb1d hb2d hsA hsB hs hs' h g hx hy k0 e2 hn hm
  go_enter Tryz.func43, Tryz.ntmps43
  go_wp2_with fail
  go_quiet (fail)
  clear hW
  by_cases hne : (n : Int) + d.e = (m : Int) + f.e
  · have q1 : (((n : Int) + d.e) != ((m : Int) + f.e)) = false := by simp [hne]
    clear hne
    go_wp2_with fail
    go_loop [7] (fun v7 => ∃ i : Nat, v7 = .int .i64 (i : Int) ∧ i ≤ 10000) (fun v7 => n + m - uOf v7)
    case atStart => exact ⟨0, rfl, by omega⟩
    case round =>
      obtain ⟨i, rfl, hi⟩ := hrel
      rcases Nat.lt_or_ge i n with hin | hin
      · obtain ⟨k, o, y, rfl, cx⟩ := HX.out i hin
        rcases Nat.lt_or_ge i m with him | him
        · obtain ⟨k', o', y', rfl, cy⟩ := HY.out i him
          go_wp2_with fail
          · go_ret
            exact ⟨⟨-1, rfl, by omega, by omega⟩, K0.out.drewN _⟩
          · go_ret
            exact ⟨⟨1, rfl, by omega, by omega⟩, K0.out.drewN _⟩
          · go_round
            case rel => exact ⟨i + 1, rfl, by have := HL.out; omega⟩
            case measure => simp [uOf]; omega
        · go_wp2_with fail
          · go_ret
            exact ⟨⟨-1, rfl, by omega, by omega⟩, K0.out.drewN _⟩
          · go_ret
            exact ⟨⟨1, rfl, by omega, by omega⟩, K0.out.drewN _⟩
          · go_round
            case rel => exact ⟨i + 1, rfl, by have := HL.out; omega⟩
            case measure => simp [uOf]; omega
      · rcases Nat.lt_or_ge i m with him | him
        · obtain ⟨k', o', y', rfl, cy⟩ := HY.out i him
          go_wp2_with fail
          · go_ret
            exact ⟨⟨-1, rfl, by omega, by omega⟩, K0.out.drewN _⟩
          · go_ret
            exact ⟨⟨1, rfl, by omega, by omega⟩, K0.out.drewN _⟩
          · go_round
            case rel => exact ⟨i + 1, rfl, by have := HL.out; omega⟩
            case measure => simp [uOf]; omega
        · go_wp2_with fail
          go_ret
          exact ⟨⟨0, rfl, by omega, by omega⟩, K0.out.drewN _⟩
  · have q1 : (((n : Int) + d.e) != ((m : Int) + f.e)) = true := by simp [hne]
    have HK := Lib.hid (K0.out)
    by_cases hlt : (n : Int) + d.e < (m : Int) + f.e
    · go_wp2_with fail
      go_ret
      exact ⟨⟨-1, rfl, by omega, by omega⟩, K0.out.drewN _⟩
    · go_wp2_with fail
      go_ret
      exact ⟨⟨1, rfl, by omega, by omega⟩, K0.out.drewN _⟩
theorem sgnD_b (d : Dm) : -1 ≤ sgnD d ∧ sgnD d ≤ 1 := by unfold sgnD; split; omega; split <;> omega
set_option maxRecDepth 100000 in
set_option maxHeartbeats 4000000 in
theorem DecimalCmp_some (v u : Value) (d f : Dm) (w : World) (h : DmAt w v d) (g : DmAt w u f) (hl : d.ds.length ≤ 10000 ∧ f.ds.length ≤ 10000) (he : -10000 ≤ d.e ∧ d.e ≤ 10000 ∧ -10000 ≤ f.e ∧ f.e ≤ 10000) :
    Calls Tryz.prog 34 #[v, u] w (SomeInt w) := by
  have HV := Lib.hid h
  have HU := Lib.hid g
  obtain ⟨p, c, b, rfl, hs⟩ := h.shape2
  obtain ⟨p', c', b', rfl, hs'⟩ := g.shape2
  have k0 : Kept (fun _ => False) w ((w.alloc (.cells #[.bool d.neg, .slice p d.ds.length c, .int .i64 d.e] 30)).alloc (.cells #[.bool f.neg, .slice p' f.ds.length c', .int .i64 f.e] 30)) := ((Kept.refl _ _).alloc _).alloc _
  have hb := heap_alloc_new w (.cells #[.bool d.neg, .slice p d.ds.length c, .int .i64 d.e] 30)
  have hb1 := ((Kept.refl (fun _ => False) (w.alloc (.cells #[.bool d.neg, .slice p d.ds.length c, .int .i64 d.e] 30))).alloc (.cells #[.bool f.neg, .slice p' f.ds.length c', .int .i64 f.e] 30)).at hb (fun f => f)
  have hb2 := heap_alloc_new (w.alloc (.cells #[.bool d.neg, .slice p d.ds.length c, .int .i64 d.e] 30)) (.cells #[.bool f.neg, .slice p' f.ds.length c', .int .i64 f.e] 30)
  have e2 : (w.alloc (.cells #[.bool d.neg, .slice p d.ds.length c, .int .i64 d.e] 30)).heap.size = w.heap.size + 1 := by simp
  rw [e2] at hb2
  generalize hW : ((w.alloc (.cells #[.bool d.neg, .slice p d.ds.length c, .int .i64 d.e] 30)).alloc (.cells #[.bool f.neg, .slice p' f.ds.length c', .int .i64 f.e] 30)) = W at *
  generalize hn : d.ds.length = n at *
  generalize hm : f.ds.length = m at *
  have K0 := Lib.hid k0
  have H1 := Lib.hid hb1
  have H2 := Lib.hid hb2
  have hvd : ∀ w', Kept (fun _ => False) w w' → DmAt w' (.agg #[.bool d.neg, .slice p n c, .int .i64 d.e]) d := fun w' hk => HV.out.old hk
  have hud : ∀ w', Kept (fun _ => False) w w' → DmAt w' (.agg #[.bool f.neg, .slice p' m c', .int .i64 f.e]) f := fun w' hk => HU.out.old hk
  have HVD := Lib.hid hvd
  have HUD := Lib.hid hud
  obtain ⟨c0, c1, c2⟩ := cells3 hb1
  obtain ⟨g0, g1, g2⟩ := cells3 hb2
  have hb1d : W.drew.heap[w.heap.size]? = _ := hb1
  have hb2d : W.drew.heap[w.heap.size + 1]? = _ := hb2
  obtain ⟨c0d, c1d, c2d⟩ := cells3 hb1d
  obtain ⟨g0d, g1d, g2d⟩ := cells3 hb2d
  have HLL := Lib.hid hl
  have HEE := Lib.hid he
  clear h g hs hs' hvd hud hb hb1 hb2 hb1d hb2d k0 e2 hl he
  have kd := K0.out.drew
  have KD := Lib.hid kd
  have H1d : Hid (W.drew.heap[w.heap.size]? = _) := H1
  have H2d : Hid (W.drew.heap[w.heap.size + 1]? = _) := H2
  have s1 := sgnD_b d
  have s2 := sgnD_b f
  clear kd
  go_enter Tryz.func34, Tryz.ntmps34
  go_wp2_with fail
  -- region
  refine start_ (n := 6) (S := fun w' => w'.cell? ⟨w.heap.size, 0, none⟩ = some (.bool d.neg) ∧ w'.cell? ⟨w.heap.size, 1, none⟩ = some (.slice p n c) ∧ w'.cell? ⟨w.heap.size, 2, none⟩ = some (.int .i64 d.e) ∧ w'.cell? ⟨w.heap.size + 1, 0, none⟩ = some (.bool f.neg) ∧ w'.cell? ⟨w.heap.size + 1, 1, none⟩ = some (.slice p' m c') ∧ w'.cell? ⟨w.heap.size + 1, 2, none⟩ = some (.int .i64 f.e)) (ds := []) #[false, false, false, false, false, false] (by kernel_rfl) rfl rfl ⟨c0d, c1d, c2d, g0d, g1d, g2d⟩ (fun hHeld => ?_)
  refine take_ (i := 0) (N := some 7) (v := ?_) (a' := ?_) #[true, false, false, false, false, false] rfl rfl (by kernel_rfl) (fun _ _ _ h => h) (Or.inl ⟨by rfl, ?_⟩) hHeld ?_ ?_
  rotate_left
  · rintro w' ⟨s0, s1, s2, s3, s4, s5⟩
    go_simp
    with_reducible rfl
  rotate_left
  · simp only [Act.put, List.setIfInBounds_toArray, List.set_cons_zero, List.set_cons_succ, i64_w, i32_w]
    rfl
  refine take_ (i := 2) (N := some 9) (v := ?_) (a' := ?_) #[true, false, true, false, false, false] rfl rfl (by kernel_rfl) (fun _ _ _ h => h) (Or.inl ⟨by rfl, ?_⟩) hHeld ?_ ?_
  rotate_left
  · rintro w' ⟨s0, s1, s2, s3, s4, s5⟩
    go_simp
    with_reducible rfl
  rotate_left
  · simp only [Act.put, List.setIfInBounds_toArray, List.set_cons_zero, List.set_cons_succ, i64_w, i32_w]
    rfl
  refine one_ (i := 1) (N := some 8) #[true, true, true, false, false, false] rfl rfl (by kernel_rfl) (by decide) (fun K hK => ?_)
  refine goes_ Tryz.func19 (by kernel_rfl) rfl #[(.agg #[.bool d.neg, .slice p n c, .int .i64 d.e])] (by rfl) rfl rfl (by simp only [List.map_toArray, List.map_cons, List.map_nil]; rfl) ?_
  with_reducible refine (DecimalSign_any _ d _ (HVD.out _ KD.out)).mono ?_
  rintro e w9 ⟨rfl, hk⟩
  have G1 := Lib.hid (hk.at H1d.out (fun f => f))
  have G2 := Lib.hid (hk.at H2d.out (fun f => f))
  obtain ⟨r0, r1, r2⟩ := cells3 G1.out
  obtain ⟨t0, t1, t2⟩ := cells3 G2.out
  have K9 := Lib.hid (KD.out.same hk)
  clear hk
  refine ⟨_, rfl, ?_⟩
  refine hK.out _ _ ⟨r0, r1, r2, t0, t1, t2⟩ (fun hHeld => ?_)
  clear hK K
  refine norm_ (a' := ?_) ?_ ?_
  rotate_left
  · show Act.put _ (some 8) _ = _
    simp only [Act.put, List.setIfInBounds_toArray, List.set_cons_zero, List.set_cons_succ, i64_w, i32_w]
    rfl
  refine one_ (i := 3) (N := some 10) #[true, true, true, true, false, false] rfl rfl (by kernel_rfl) (by decide) (fun K hK => ?_)
  refine goes_ Tryz.func19 (by kernel_rfl) rfl #[(.agg #[.bool f.neg, .slice p' m c', .int .i64 f.e])] (by rfl) rfl rfl (by simp only [List.map_toArray, List.map_cons, List.map_nil]; rfl) ?_
  with_reducible refine (DecimalSign_any _ f _ (HUD.out _ K9.out)).mono ?_
  rintro e w10 ⟨rfl, hk⟩
  have G3 := Lib.hid (hk.at G1.out (fun f => f))
  have G4 := Lib.hid (hk.at G2.out (fun f => f))
  obtain ⟨r0, r1, r2⟩ := cells3 G3.out
  obtain ⟨t0, t1, t2⟩ := cells3 G4.out
  have K10 := Lib.hid (K9.out.same hk)
  clear hk
  refine ⟨_, rfl, ?_⟩
  refine hK.out _ _ ⟨r0, r1, r2, t0, t1, t2⟩ (fun hHeld => ?_)
  clear hK K
  refine norm_ (a' := ?_) ?_ ?_
  rotate_left
  · show Act.put _ (some 10) _ = _
    simp only [Act.put, List.setIfInBounds_toArray, List.set_cons_zero, List.set_cons_succ, i64_w, i32_w]
    rfl
  refine pure_ (i := 4) (N := some 5) (v := ?_) (a' := ?_) #[true, true, true, true, true, false] rfl rfl (by kernel_rfl) (fun _ _ _ h => h) (Or.inl ⟨by rfl, ?_⟩) ?_ ?_
  rotate_left
  · intro w'
    go_simp
    with_reducible rfl
  rotate_left
  · simp only [Act.put, List.setIfInBounds_toArray, List.set_cons_zero, List.set_cons_succ, i64_w, i32_w]
    rfl
  refine pure_ (i := 5) (N := some 6) (v := ?_) (a' := ?_) #[true, true, true, true, true, true] rfl rfl (by kernel_rfl) (fun _ _ _ h => h) (Or.inl ⟨by rfl, ?_⟩) ?_ ?_
  rotate_left
  · intro w'
    go_simp
    with_reducible rfl
  rotate_left
  · simp only [Act.put, List.setIfInBounds_toArray, List.set_cons_zero, List.set_cons_succ, i64_w, i32_w]
    rfl
  refine done_ (by kernel_rfl) ?_

  generalize sgnD d = x at *
  generalize sgnD f = y at *
  have HV2 := Lib.hid (HVD.out _ K10.out)
  have HU2 := Lib.hid (HUD.out _ K10.out)
  have HLG := Lib.hid (larger_some _ _ d f w10 HV2.out HU2.out (by rw [hn, hm]; exact HLL.out) HEE.out)
  obtain ⟨u0, u1, u2⟩ := cells3 G3.out
  obtain ⟨y0, y1, y2⟩ := cells3 G4.out
  clear c0 c1 c2 g0 g1 g2 c0d c1d c2d g0d g1d g2d hHeld
  by_cases hxy : x = y
  · subst hxy
    have q1 : (x != x) = false := by simp
    by_cases hneg : x < 0
    · go_wp2_with fail
      refine HLG.out.mono ?_
      rintro e w11 ⟨⟨k, rfl, hk1, hk2⟩, hk⟩
      have hw : IntKind.i64.wrap (-k) = -k := by rw [IntKind.wrap_i64]; omega
      go_wp2_with fail
      go_ret
      exact ⟨⟨-k, rfl, by omega, by omega⟩, K10.out.same hk⟩
    · by_cases hpos : 0 < x
      · go_wp2_with fail
        refine HLG.out.mono ?_
        rintro e w11 ⟨⟨k, rfl, hk1, hk2⟩, hk⟩
        go_wp2_with fail
        go_ret
        exact ⟨⟨k, rfl, by omega, by omega⟩, K10.out.same hk⟩
      · go_wp2_with fail
        go_ret
        exact ⟨⟨0, rfl, by omega, by omega⟩, K10.out⟩
  · have q1 : (x != y) = true := by simp [hxy]
    by_cases hlt : x < y
    · go_wp2_with fail
      go_ret
      exact ⟨⟨-1, rfl, by omega, by omega⟩, K10.out⟩
    · go_wp2_with fail
      go_ret
      exact ⟨⟨1, rfl, by omega, by omega⟩, K10.out⟩
end Go.Proofs.YtjebnpkebccffaaGreatDoor
namespace Go.Proofs.YtjebnpkebccffaaGreatDoor
open Go.RowKit
open Go.Proofs.YtjebnpkebccffaaGreatDoorW.PrintLast
/-! ### QuantityMay (printed by qmay.py) -/
def SomeBool (w : World) (e : Ending) (w' : World) : Prop := (∃ k : Bool, e = .returned (.bool k)) ∧ Kept (fun _ => False) w w'
set_option maxRecDepth 100000 in
set_option maxHeartbeats 4000000 in
theorem QuantityMay_some (v : Value) (d : Dm) (w : World) (h : DmAt w v d) (hl : d.ds.length ≤ 10000) (he : -10000 ≤ d.e ∧ d.e ≤ 10000) : Calls Tryz.prog 33 #[v] w (SomeBool w) := by
  obtain ⟨p, c, b, rfl, hs⟩ := h.shape2
  generalize hn : d.ds.length = n at *
  have k0 : Kept (fun _ => False) w ((w.alloc (.cells #[.bool d.neg, .slice p n c, .int .i64 d.e] 30)).alloc (.cells #[.bool false, .slice p n c, .int .i64 d.e] 30)) := ((Kept.refl _ _).alloc _).alloc _
  have hb := heap_alloc_new w (.cells #[.bool d.neg, .slice p n c, .int .i64 d.e] 30)
  have hb1 := ((Kept.refl (fun _ => False) (w.alloc (.cells #[.bool d.neg, .slice p n c, .int .i64 d.e] 30))).alloc (.cells #[.bool false, .slice p n c, .int .i64 d.e] 30)).at hb (fun f => f)
  have hb2 := heap_alloc_new (w.alloc (.cells #[.bool d.neg, .slice p n c, .int .i64 d.e] 30)) (.cells #[.bool false, .slice p n c, .int .i64 d.e] 30)
  have e2 : (w.alloc (.cells #[.bool d.neg, .slice p n c, .int .i64 d.e] 30)).heap.size = w.heap.size + 1 := by simp
  rw [e2] at hb2
  generalize hW : ((w.alloc (.cells #[.bool d.neg, .slice p n c, .int .i64 d.e] 30)).alloc (.cells #[.bool false, .slice p n c, .int .i64 d.e] 30)) = W at *
  have KD := Lib.hid k0.drew
  have hb1d : W.drew.heap[w.heap.size]? = _ := hb1
  have hb2d : W.drew.heap[w.heap.size + 1]? = _ := hb2
  obtain ⟨c0d, c1d, c2d⟩ := cells3 hb1d
  obtain ⟨g0d, g1d, g2d⟩ := cells3 hb2d
  have H1d := Lib.hid hb1d
  have H2d := Lib.hid hb2d
  have hvd : ∀ w', Kept (fun _ => False) w w' → DmAt w' (.agg #[.bool false, .slice p n c, .int .i64 d.e]) ⟨false, d.ds, d.e⟩ := fun w' hk => ⟨_, b, rfl, hs.old hk⟩
  have HVD := Lib.hid hvd
  have HLL := Lib.hid hl
  have HEE := Lib.hid he
  have HD9 : Hid (DmB (decL (decide ((9223372036854775807 : Int) < 0)) (dgs (9223372036854775807 : Int).natAbs) 0) 20 (0 + (20 : Nat))) := decL_b (dgs_le 20 _ (by decide)).2 (dgs_le 20 _ (by decide)).1 (by omega) (by omega)
  generalize hD9 : decL (decide ((9223372036854775807 : Int) < 0)) (dgs (9223372036854775807 : Int).natAbs) 0 = D9 at *
  clear h hs hvd hb hb1 hb2 hb1d hb2d k0 e2 hl he
  go_enter Tryz.func33, Tryz.ntmps33
  go_wp2_with fail
  clear hW
  by_cases hz : n = 0
  · have q1 : ((n : Int) == 0) = true := beqT (by omega)
    clear hz
    refine start_ (n := 16) (S := fun w' => w'.cell? ⟨w.heap.size, 0, none⟩ = some (.bool d.neg) ∧ w'.cell? ⟨w.heap.size, 1, none⟩ = some (.slice p n c) ∧ w'.cell? ⟨w.heap.size, 2, none⟩ = some (.int .i64 d.e) ∧ w'.cell? ⟨w.heap.size + 1, 0, none⟩ = some (.bool false) ∧ w'.cell? ⟨w.heap.size + 1, 1, none⟩ = some (.slice p n c) ∧ w'.cell? ⟨w.heap.size + 1, 2, none⟩ = some (.int .i64 d.e)) (ds := []) #[false, false, false, false, false, false, false, false, false, false, false, false, false, false, false, false] (by kernel_rfl) rfl rfl ⟨c0d, c1d, c2d, g0d, g1d, g2d⟩ (fun hHeld => ?_)
    refine pure_ (i := 0) (N := some 6) (v := ?_) (a' := ?_) #[true, false, false, false, false, false, false, false, false, false, false, false, false, false, false, false] rfl rfl (by kernel_rfl) (fun _ _ _ h => h) (Or.inl ⟨by rfl, ?_⟩) ?_ ?_
    rotate_left
    · intro w'
      go_simp
      with_reducible rfl
    rotate_left
    · simp only [Act.put, List.setIfInBounds_toArray, List.set_cons_zero, List.set_cons_succ, i64_w, i32_w]
      rfl
    refine take_ (i := 1) (N := some 7) (v := ?_) (a' := ?_) #[true, true, false, false, false, false, false, false, false, false, false, false, false, false, false, false] rfl rfl (by kernel_rfl) (fun _ _ _ h => h) (Or.inl ⟨by rfl, ?_⟩) hHeld ?_ ?_
    rotate_left
    · rintro w' ⟨s0, s1, s2, s3, s4, s5⟩
      go_simp
      with_reducible rfl
    rotate_left
    · simp only [Act.put, List.setIfInBounds_toArray, List.set_cons_zero, List.set_cons_succ, i64_w, i32_w]
      rfl
    refine pure_ (i := 2) (N := some 8) (v := ?_) (a' := ?_) #[true, true, true, false, false, false, false, false, false, false, false, false, false, false, false, false] rfl rfl (by kernel_rfl) (fun _ _ _ h => h) (Or.inl ⟨by rfl, ?_⟩) ?_ ?_
    rotate_left
    · intro w'
      go_simp
      with_reducible rfl
    rotate_left
    · simp only [Act.put, List.setIfInBounds_toArray, List.set_cons_zero, List.set_cons_succ, i64_w, i32_w]
      rfl
    refine pure_ (i := 3) (N := some 9) (v := ?_) (a' := ?_) #[true, true, true, true, false, false, false, false, false, false, false, false, false, false, false, false] rfl rfl (by kernel_rfl) (fun _ _ _ h => h) (Or.inl ⟨by rfl, ?_⟩) ?_ ?_
    rotate_left
    · intro w'
      go_simp
      with_reducible rfl
    rotate_left
    · simp only [Act.put, List.setIfInBounds_toArray, List.set_cons_zero, List.set_cons_succ, i64_w, i32_w]
      rfl
    refine pure_ (i := 4) (N := some 10) (v := ?_) (a' := ?_) #[true, true, true, true, true, false, false, false, false, false, false, false, false, false, false, false] rfl rfl (by kernel_rfl) (fun _ _ _ h => h) (Or.inl ⟨by rfl, ?_⟩) ?_ ?_
    rotate_left
    · intro w'
      go_simp
      with_reducible rfl
    rotate_left
    · simp only [Act.put, List.setIfInBounds_toArray, List.set_cons_zero, List.set_cons_succ, i64_w, i32_w]
      rfl
    refine pure_ (i := 5) (N := some 11) (v := undef) (a' := ?_) #[true, true, true, true, true, true, false, false, false, false, false, false, false, false, false, false] rfl rfl (by kernel_rfl) (fun _ _ _ h => h) (Or.inr ⟨by rfl, rfl⟩) ?_ ?_
    rotate_left
    · simp only [Act.put, List.setIfInBounds_toArray, List.set_cons_zero, List.set_cons_succ, i64_w, i32_w]
      rfl
    refine pure_ (i := 6) (N := some 12) (v := undef) (a' := ?_) #[true, true, true, true, true, true, true, false, false, false, false, false, false, false, false, false] rfl rfl (by kernel_rfl) (fun _ _ _ h => h) (Or.inr ⟨by rfl, rfl⟩) ?_ ?_
    rotate_left
    · simp only [Act.put, List.setIfInBounds_toArray, List.set_cons_zero, List.set_cons_succ, i64_w, i32_w]
      rfl
    refine pure_ (i := 7) (N := some 13) (v := undef) (a' := ?_) #[true, true, true, true, true, true, true, true, false, false, false, false, false, false, false, false] rfl rfl (by kernel_rfl) (fun _ _ _ h => h) (Or.inr ⟨by rfl, rfl⟩) ?_ ?_
    rotate_left
    · simp only [Act.put, List.setIfInBounds_toArray, List.set_cons_zero, List.set_cons_succ, i64_w, i32_w]
      rfl
    refine pure_ (i := 8) (N := some 14) (v := ?_) (a' := ?_) #[true, true, true, true, true, true, true, true, true, false, false, false, false, false, false, false] rfl rfl (by kernel_rfl) (fun _ _ _ h => h) (Or.inl ⟨by rfl, ?_⟩) ?_ ?_
    rotate_left
    · intro w'
      go_simp
      with_reducible rfl
    rotate_left
    · simp only [Act.put, List.setIfInBounds_toArray, List.set_cons_zero, List.set_cons_succ, i64_w, i32_w]
      rfl
    refine pure_ (i := 9) (N := some 15) (v := ?_) (a' := ?_) #[true, true, true, true, true, true, true, true, true, true, false, false, false, false, false, false] rfl rfl (by kernel_rfl) (fun _ _ _ h => h) (Or.inl ⟨by rfl, ?_⟩) ?_ ?_
    rotate_left
    · intro w'
      go_simp
      with_reducible rfl
    rotate_left
    · simp only [Act.put, List.setIfInBounds_toArray, List.set_cons_zero, List.set_cons_succ, i64_w, i32_w]
      rfl
    refine take_ (i := 10) (N := some 16) (v := ?_) (a' := ?_) #[true, true, true, true, true, true, true, true, true, true, true, false, false, false, false, false] rfl rfl (by kernel_rfl) (fun _ _ _ h => h) (Or.inl ⟨by rfl, ?_⟩) hHeld ?_ ?_
    rotate_left
    · rintro w' ⟨s0, s1, s2, s3, s4, s5⟩
      go_simp
      with_reducible rfl
    rotate_left
    · simp only [Act.put, List.setIfInBounds_toArray, List.set_cons_zero, List.set_cons_succ, i64_w, i32_w]
      rfl
    refine one_ (i := 11) (N := some 17) #[true, true, true, true, true, true, true, true, true, true, true, true, false, false, false, false] rfl rfl (by kernel_rfl) (by decide) (fun K hK => ?_)
    refine goes_ Tryz.func14 (by kernel_rfl) rfl #[.int .i64 9223372036854775807, .int .i64 0] (by rfl) rfl rfl (by simp only [List.map_toArray, List.map_cons, List.map_nil]; rfl) ?_
    with_reducible refine (DecimalOf_any 9223372036854775807 0 _ (by omega) (by omega)).mono ?_
    rintro e w9 ⟨v9, rfl, hv9, hk⟩
    have G1 := Lib.hid (hk.at H1d.out (fun f => f))
    have G2 := Lib.hid (hk.at H2d.out (fun f => f))
    obtain ⟨r0, r1, r2⟩ := cells3 G1.out
    obtain ⟨t0, t1, t2⟩ := cells3 G2.out
    have K9 := Lib.hid (KD.out.same hk)
    rw [hD9] at hv9
    obtain ⟨p9, c9, b9, rfl, hs9⟩ := hv9.shape2
    have V9 := Lib.hid hv9
    clear hk hv9
    refine ⟨_, rfl, ?_⟩
    refine hK.out _ _ ⟨r0, r1, r2, t0, t1, t2⟩ (fun hHeld => ?_)
    clear hK K
    refine norm_ (a' := ?_) ?_ ?_
    rotate_left
    · show Act.put _ (some 17) _ = _
      simp only [Act.put, List.setIfInBounds_toArray, List.set_cons_zero, List.set_cons_succ, i64_w, i32_w]
      rfl
    refine one_ (i := 12) (N := some 18) #[true, true, true, true, true, true, true, true, true, true, true, true, true, false, false, false] rfl rfl (by kernel_rfl) (by decide) (fun K hK => ?_)
    refine goes_ Tryz.func34 (by kernel_rfl) rfl #[.agg #[.bool false, .slice p n c, .int .i64 d.e], .agg #[.bool D9.neg, .slice p9 D9.ds.length c9, .int .i64 D9.e]] (by rfl) rfl rfl (by simp only [List.map_toArray, List.map_cons, List.map_nil]; rfl) ?_
    with_reducible refine (DecimalCmp_some _ _ ⟨false, d.ds, d.e⟩ D9 _ (HVD.out _ K9.out) V9.out (by show d.ds.length ≤ 10000 ∧ _; rw [hn]; exact ⟨HLL.out, by have := HD9.out.len; omega⟩) (by have := HD9.out.lo; have := HD9.out.hi; have := HEE.out; exact ⟨by show _ ≤ d.e; omega, by show d.e ≤ _; omega, by omega, by omega⟩)).mono ?_
    rintro e w10 ⟨⟨k, rfl, hk1, hk2⟩, hk⟩
    have G3 := Lib.hid (hk.at G1.out (fun f => f))
    have G4 := Lib.hid (hk.at G2.out (fun f => f))
    obtain ⟨r0, r1, r2⟩ := cells3 G3.out
    obtain ⟨t0, t1, t2⟩ := cells3 G4.out
    have K10 := Lib.hid (K9.out.same hk)
    clear hk
    refine ⟨_, rfl, ?_⟩
    refine hK.out _ _ ⟨r0, r1, r2, t0, t1, t2⟩ (fun hHeld => ?_)
    clear hK K
    refine norm_ (a' := ?_) ?_ ?_
    rotate_left
    · show Act.put _ (some 18) _ = _
      simp only [Act.put, List.setIfInBounds_toArray, List.set_cons_zero, List.set_cons_succ, i64_w, i32_w]
      rfl
    refine pure_ (i := 13) (N := some 19) (v := ?_) (a' := ?_) #[true, true, true, true, true, true, true, true, true, true, true, true, true, true, false, false] rfl rfl (by kernel_rfl) (fun _ _ _ h => h) (Or.inl ⟨by rfl, ?_⟩) ?_ ?_
    rotate_left
    · intro w'
      go_simp
      with_reducible rfl
    rotate_left
    · simp only [Act.put, List.setIfInBounds_toArray, List.set_cons_zero, List.set_cons_succ, i64_w, i32_w]
      rfl
    refine pure_ (i := 14) (N := some 20) (v := ?_) (a' := ?_) #[true, true, true, true, true, true, true, true, true, true, true, true, true, true, true, false] rfl rfl (by kernel_rfl) (fun _ _ _ h => h) (Or.inl ⟨by rfl, ?_⟩) ?_ ?_
    rotate_left
    · intro w'
      go_simp
      with_reducible rfl
    rotate_left
    · simp only [Act.put, List.setIfInBounds_toArray, List.set_cons_zero, List.set_cons_succ, i64_w, i32_w]
      rfl
    refine pure_ (i := 15) (N := some 2) (v := ?_) (a' := ?_) #[true, true, true, true, true, true, true, true, true, true, true, true, true, true, true, true] rfl rfl (by kernel_rfl) (fun _ _ _ h => h) (Or.inl ⟨by rfl, ?_⟩) ?_ ?_
    rotate_left
    · intro w'
      go_simp
      with_reducible rfl
    rotate_left
    · simp only [Act.put, List.setIfInBounds_toArray, List.set_cons_zero, List.set_cons_succ, i64_w, i32_w]
      rfl
    refine done_ (by kernel_rfl) ?_

    go_wp2_with fail
    go_ret
    exact ⟨⟨_, rfl⟩, K10.out⟩
  · have q1 : ((n : Int) == 0) = false := beqF (by omega)
    by_cases hlo : -3 ≤ d.e
    · have q2 : decide (-3 ≤ d.e) = true := decT hlo
      clear hz hlo
      refine start_ (n := 16) (S := fun w' => w'.cell? ⟨w.heap.size, 0, none⟩ = some (.bool d.neg) ∧ w'.cell? ⟨w.heap.size, 1, none⟩ = some (.slice p n c) ∧ w'.cell? ⟨w.heap.size, 2, none⟩ = some (.int .i64 d.e) ∧ w'.cell? ⟨w.heap.size + 1, 0, none⟩ = some (.bool false) ∧ w'.cell? ⟨w.heap.size + 1, 1, none⟩ = some (.slice p n c) ∧ w'.cell? ⟨w.heap.size + 1, 2, none⟩ = some (.int .i64 d.e)) (ds := []) #[false, false, false, false, false, false, false, false, false, false, false, false, false, false, false, false] (by kernel_rfl) rfl rfl ⟨c0d, c1d, c2d, g0d, g1d, g2d⟩ (fun hHeld => ?_)
      refine pure_ (i := 0) (N := some 6) (v := ?_) (a' := ?_) #[true, false, false, false, false, false, false, false, false, false, false, false, false, false, false, false] rfl rfl (by kernel_rfl) (fun _ _ _ h => h) (Or.inl ⟨by rfl, ?_⟩) ?_ ?_
      rotate_left
      · intro w'
        go_simp
        with_reducible rfl
      rotate_left
      · simp only [Act.put, List.setIfInBounds_toArray, List.set_cons_zero, List.set_cons_succ, i64_w, i32_w]
        rfl
      refine take_ (i := 1) (N := some 7) (v := ?_) (a' := ?_) #[true, true, false, false, false, false, false, false, false, false, false, false, false, false, false, false] rfl rfl (by kernel_rfl) (fun _ _ _ h => h) (Or.inl ⟨by rfl, ?_⟩) hHeld ?_ ?_
      rotate_left
      · rintro w' ⟨s0, s1, s2, s3, s4, s5⟩
        go_simp
        with_reducible rfl
      rotate_left
      · simp only [Act.put, List.setIfInBounds_toArray, List.set_cons_zero, List.set_cons_succ, i64_w, i32_w]
        rfl
      refine pure_ (i := 2) (N := some 8) (v := ?_) (a' := ?_) #[true, true, true, false, false, false, false, false, false, false, false, false, false, false, false, false] rfl rfl (by kernel_rfl) (fun _ _ _ h => h) (Or.inl ⟨by rfl, ?_⟩) ?_ ?_
      rotate_left
      · intro w'
        go_simp
        with_reducible rfl
      rotate_left
      · simp only [Act.put, List.setIfInBounds_toArray, List.set_cons_zero, List.set_cons_succ, i64_w, i32_w]
        rfl
      refine pure_ (i := 3) (N := some 9) (v := ?_) (a' := ?_) #[true, true, true, true, false, false, false, false, false, false, false, false, false, false, false, false] rfl rfl (by kernel_rfl) (fun _ _ _ h => h) (Or.inl ⟨by rfl, ?_⟩) ?_ ?_
      rotate_left
      · intro w'
        go_simp
        with_reducible rfl
      rotate_left
      · simp only [Act.put, List.setIfInBounds_toArray, List.set_cons_zero, List.set_cons_succ, i64_w, i32_w]
        rfl
      refine pure_ (i := 4) (N := some 10) (v := ?_) (a' := ?_) #[true, true, true, true, true, false, false, false, false, false, false, false, false, false, false, false] rfl rfl (by kernel_rfl) (fun _ _ _ h => h) (Or.inl ⟨by rfl, ?_⟩) ?_ ?_
      rotate_left
      · intro w'
        go_simp
        with_reducible rfl
      rotate_left
      · simp only [Act.put, List.setIfInBounds_toArray, List.set_cons_zero, List.set_cons_succ, i64_w, i32_w]
        rfl
      refine pure_ (i := 5) (N := some 11) (v := ?_) (a' := ?_) #[true, true, true, true, true, true, false, false, false, false, false, false, false, false, false, false] rfl rfl (by kernel_rfl) (fun _ _ _ h => h) (Or.inl ⟨by rfl, ?_⟩) ?_ ?_
      rotate_left
      · intro w'
        go_simp
        with_reducible rfl
      rotate_left
      · simp only [Act.put, List.setIfInBounds_toArray, List.set_cons_zero, List.set_cons_succ, i64_w, i32_w]
        rfl
      refine take_ (i := 6) (N := some 12) (v := ?_) (a' := ?_) #[true, true, true, true, true, true, true, false, false, false, false, false, false, false, false, false] rfl rfl (by kernel_rfl) (fun _ _ _ h => h) (Or.inl ⟨by rfl, ?_⟩) hHeld ?_ ?_
      rotate_left
      · rintro w' ⟨s0, s1, s2, s3, s4, s5⟩
        go_simp
        with_reducible rfl
      rotate_left
      · simp only [Act.put, List.setIfInBounds_toArray, List.set_cons_zero, List.set_cons_succ, i64_w, i32_w]
        rfl
      refine pure_ (i := 7) (N := some 13) (v := ?_) (a' := ?_) #[true, true, true, true, true, true, true, true, false, false, false, false, false, false, false, false] rfl rfl (by kernel_rfl) (fun _ _ _ h => h) (Or.inl ⟨by rfl, ?_⟩) ?_ ?_
      rotate_left
      · intro w'
        go_simp
        with_reducible rfl
      rotate_left
      · simp only [Act.put, List.setIfInBounds_toArray, List.set_cons_zero, List.set_cons_succ, i64_w, i32_w]
        rfl
      refine pure_ (i := 8) (N := some 14) (v := ?_) (a' := ?_) #[true, true, true, true, true, true, true, true, true, false, false, false, false, false, false, false] rfl rfl (by kernel_rfl) (fun _ _ _ h => h) (Or.inl ⟨by rfl, ?_⟩) ?_ ?_
      rotate_left
      · intro w'
        go_simp
        with_reducible rfl
      rotate_left
      · simp only [Act.put, List.setIfInBounds_toArray, List.set_cons_zero, List.set_cons_succ, i64_w, i32_w]
        rfl
      refine pure_ (i := 9) (N := some 15) (v := ?_) (a' := ?_) #[true, true, true, true, true, true, true, true, true, true, false, false, false, false, false, false] rfl rfl (by kernel_rfl) (fun _ _ _ h => h) (Or.inl ⟨by rfl, ?_⟩) ?_ ?_
      rotate_left
      · intro w'
        go_simp
        with_reducible rfl
      rotate_left
      · simp only [Act.put, List.setIfInBounds_toArray, List.set_cons_zero, List.set_cons_succ, i64_w, i32_w]
        rfl
      refine take_ (i := 10) (N := some 16) (v := ?_) (a' := ?_) #[true, true, true, true, true, true, true, true, true, true, true, false, false, false, false, false] rfl rfl (by kernel_rfl) (fun _ _ _ h => h) (Or.inl ⟨by rfl, ?_⟩) hHeld ?_ ?_
      rotate_left
      · rintro w' ⟨s0, s1, s2, s3, s4, s5⟩
        go_simp
        with_reducible rfl
      rotate_left
      · simp only [Act.put, List.setIfInBounds_toArray, List.set_cons_zero, List.set_cons_succ, i64_w, i32_w]
        rfl
      refine one_ (i := 11) (N := some 17) #[true, true, true, true, true, true, true, true, true, true, true, true, false, false, false, false] rfl rfl (by kernel_rfl) (by decide) (fun K hK => ?_)
      refine goes_ Tryz.func14 (by kernel_rfl) rfl #[.int .i64 9223372036854775807, .int .i64 0] (by rfl) rfl rfl (by simp only [List.map_toArray, List.map_cons, List.map_nil]; rfl) ?_
      with_reducible refine (DecimalOf_any 9223372036854775807 0 _ (by omega) (by omega)).mono ?_
      rintro e w9 ⟨v9, rfl, hv9, hk⟩
      have G1 := Lib.hid (hk.at H1d.out (fun f => f))
      have G2 := Lib.hid (hk.at H2d.out (fun f => f))
      obtain ⟨r0, r1, r2⟩ := cells3 G1.out
      obtain ⟨t0, t1, t2⟩ := cells3 G2.out
      have K9 := Lib.hid (KD.out.same hk)
      rw [hD9] at hv9
      obtain ⟨p9, c9, b9, rfl, hs9⟩ := hv9.shape2
      have V9 := Lib.hid hv9
      clear hk hv9
      refine ⟨_, rfl, ?_⟩
      refine hK.out _ _ ⟨r0, r1, r2, t0, t1, t2⟩ (fun hHeld => ?_)
      clear hK K
      refine norm_ (a' := ?_) ?_ ?_
      rotate_left
      · show Act.put _ (some 17) _ = _
        simp only [Act.put, List.setIfInBounds_toArray, List.set_cons_zero, List.set_cons_succ, i64_w, i32_w]
        rfl
      refine one_ (i := 12) (N := some 18) #[true, true, true, true, true, true, true, true, true, true, true, true, true, false, false, false] rfl rfl (by kernel_rfl) (by decide) (fun K hK => ?_)
      refine goes_ Tryz.func34 (by kernel_rfl) rfl #[.agg #[.bool false, .slice p n c, .int .i64 d.e], .agg #[.bool D9.neg, .slice p9 D9.ds.length c9, .int .i64 D9.e]] (by rfl) rfl rfl (by simp only [List.map_toArray, List.map_cons, List.map_nil]; rfl) ?_
      with_reducible refine (DecimalCmp_some _ _ ⟨false, d.ds, d.e⟩ D9 _ (HVD.out _ K9.out) V9.out (by show d.ds.length ≤ 10000 ∧ _; rw [hn]; exact ⟨HLL.out, by have := HD9.out.len; omega⟩) (by have := HD9.out.lo; have := HD9.out.hi; have := HEE.out; exact ⟨by show _ ≤ d.e; omega, by show d.e ≤ _; omega, by omega, by omega⟩)).mono ?_
      rintro e w10 ⟨⟨k, rfl, hk1, hk2⟩, hk⟩
      have G3 := Lib.hid (hk.at G1.out (fun f => f))
      have G4 := Lib.hid (hk.at G2.out (fun f => f))
      obtain ⟨r0, r1, r2⟩ := cells3 G3.out
      obtain ⟨t0, t1, t2⟩ := cells3 G4.out
      have K10 := Lib.hid (K9.out.same hk)
      clear hk
      refine ⟨_, rfl, ?_⟩
      refine hK.out _ _ ⟨r0, r1, r2, t0, t1, t2⟩ (fun hHeld => ?_)
      clear hK K
      refine norm_ (a' := ?_) ?_ ?_
      rotate_left
      · show Act.put _ (some 18) _ = _
        simp only [Act.put, List.setIfInBounds_toArray, List.set_cons_zero, List.set_cons_succ, i64_w, i32_w]
        rfl
      refine pure_ (i := 13) (N := some 19) (v := ?_) (a' := ?_) #[true, true, true, true, true, true, true, true, true, true, true, true, true, true, false, false] rfl rfl (by kernel_rfl) (fun _ _ _ h => h) (Or.inl ⟨by rfl, ?_⟩) ?_ ?_
      rotate_left
      · intro w'
        go_simp
        with_reducible rfl
      rotate_left
      · simp only [Act.put, List.setIfInBounds_toArray, List.set_cons_zero, List.set_cons_succ, i64_w, i32_w]
        rfl
      refine pure_ (i := 14) (N := some 20) (v := ?_) (a' := ?_) #[true, true, true, true, true, true, true, true, true, true, true, true, true, true, true, false] rfl rfl (by kernel_rfl) (fun _ _ _ h => h) (Or.inl ⟨by rfl, ?_⟩) ?_ ?_
      rotate_left
      · intro w'
        go_simp
        with_reducible rfl
      rotate_left
      · simp only [Act.put, List.setIfInBounds_toArray, List.set_cons_zero, List.set_cons_succ, i64_w, i32_w]
        rfl
      refine pure_ (i := 15) (N := some 2) (v := ?_) (a' := ?_) #[true, true, true, true, true, true, true, true, true, true, true, true, true, true, true, true] rfl rfl (by kernel_rfl) (fun _ _ _ h => h) (Or.inl ⟨by rfl, ?_⟩) ?_ ?_
      rotate_left
      · intro w'
        go_simp
        with_reducible rfl
      rotate_left
      · simp only [Act.put, List.setIfInBounds_toArray, List.set_cons_zero, List.set_cons_succ, i64_w, i32_w]
        rfl
      refine done_ (by kernel_rfl) ?_

      go_wp2_with fail
      go_ret
      exact ⟨⟨_, rfl⟩, K10.out⟩
    · have q2 : decide (-3 ≤ d.e) = false := decF hlo
      clear hz hlo
      refine start_ (n := 16) (S := fun w' => w'.cell? ⟨w.heap.size, 0, none⟩ = some (.bool d.neg) ∧ w'.cell? ⟨w.heap.size, 1, none⟩ = some (.slice p n c) ∧ w'.cell? ⟨w.heap.size, 2, none⟩ = some (.int .i64 d.e) ∧ w'.cell? ⟨w.heap.size + 1, 0, none⟩ = some (.bool false) ∧ w'.cell? ⟨w.heap.size + 1, 1, none⟩ = some (.slice p n c) ∧ w'.cell? ⟨w.heap.size + 1, 2, none⟩ = some (.int .i64 d.e)) (ds := []) #[false, false, false, false, false, false, false, false, false, false, false, false, false, false, false, false] (by kernel_rfl) rfl rfl ⟨c0d, c1d, c2d, g0d, g1d, g2d⟩ (fun hHeld => ?_)
      refine pure_ (i := 0) (N := some 6) (v := ?_) (a' := ?_) #[true, false, false, false, false, false, false, false, false, false, false, false, false, false, false, false] rfl rfl (by kernel_rfl) (fun _ _ _ h => h) (Or.inl ⟨by rfl, ?_⟩) ?_ ?_
      rotate_left
      · intro w'
        go_simp
        with_reducible rfl
      rotate_left
      · simp only [Act.put, List.setIfInBounds_toArray, List.set_cons_zero, List.set_cons_succ, i64_w, i32_w]
        rfl
      refine take_ (i := 1) (N := some 7) (v := ?_) (a' := ?_) #[true, true, false, false, false, false, false, false, false, false, false, false, false, false, false, false] rfl rfl (by kernel_rfl) (fun _ _ _ h => h) (Or.inl ⟨by rfl, ?_⟩) hHeld ?_ ?_
      rotate_left
      · rintro w' ⟨s0, s1, s2, s3, s4, s5⟩
        go_simp
        with_reducible rfl
      rotate_left
      · simp only [Act.put, List.setIfInBounds_toArray, List.set_cons_zero, List.set_cons_succ, i64_w, i32_w]
        rfl
      refine pure_ (i := 2) (N := some 8) (v := ?_) (a' := ?_) #[true, true, true, false, false, false, false, false, false, false, false, false, false, false, false, false] rfl rfl (by kernel_rfl) (fun _ _ _ h => h) (Or.inl ⟨by rfl, ?_⟩) ?_ ?_
      rotate_left
      · intro w'
        go_simp
        with_reducible rfl
      rotate_left
      · simp only [Act.put, List.setIfInBounds_toArray, List.set_cons_zero, List.set_cons_succ, i64_w, i32_w]
        rfl
      refine pure_ (i := 3) (N := some 9) (v := ?_) (a' := ?_) #[true, true, true, true, false, false, false, false, false, false, false, false, false, false, false, false] rfl rfl (by kernel_rfl) (fun _ _ _ h => h) (Or.inl ⟨by rfl, ?_⟩) ?_ ?_
      rotate_left
      · intro w'
        go_simp
        with_reducible rfl
      rotate_left
      · simp only [Act.put, List.setIfInBounds_toArray, List.set_cons_zero, List.set_cons_succ, i64_w, i32_w]
        rfl
      refine pure_ (i := 4) (N := some 10) (v := ?_) (a' := ?_) #[true, true, true, true, true, false, false, false, false, false, false, false, false, false, false, false] rfl rfl (by kernel_rfl) (fun _ _ _ h => h) (Or.inl ⟨by rfl, ?_⟩) ?_ ?_
      rotate_left
      · intro w'
        go_simp
        with_reducible rfl
      rotate_left
      · simp only [Act.put, List.setIfInBounds_toArray, List.set_cons_zero, List.set_cons_succ, i64_w, i32_w]
        rfl
      refine pure_ (i := 5) (N := some 11) (v := ?_) (a' := ?_) #[true, true, true, true, true, true, false, false, false, false, false, false, false, false, false, false] rfl rfl (by kernel_rfl) (fun _ _ _ h => h) (Or.inl ⟨by rfl, ?_⟩) ?_ ?_
      rotate_left
      · intro w'
        go_simp
        with_reducible rfl
      rotate_left
      · simp only [Act.put, List.setIfInBounds_toArray, List.set_cons_zero, List.set_cons_succ, i64_w, i32_w]
        rfl
      refine take_ (i := 6) (N := some 12) (v := ?_) (a' := ?_) #[true, true, true, true, true, true, true, false, false, false, false, false, false, false, false, false] rfl rfl (by kernel_rfl) (fun _ _ _ h => h) (Or.inl ⟨by rfl, ?_⟩) hHeld ?_ ?_
      rotate_left
      · rintro w' ⟨s0, s1, s2, s3, s4, s5⟩
        go_simp
        with_reducible rfl
      rotate_left
      · simp only [Act.put, List.setIfInBounds_toArray, List.set_cons_zero, List.set_cons_succ, i64_w, i32_w]
        rfl
      refine pure_ (i := 7) (N := some 13) (v := ?_) (a' := ?_) #[true, true, true, true, true, true, true, true, false, false, false, false, false, false, false, false] rfl rfl (by kernel_rfl) (fun _ _ _ h => h) (Or.inl ⟨by rfl, ?_⟩) ?_ ?_
      rotate_left
      · intro w'
        go_simp
        with_reducible rfl
      rotate_left
      · simp only [Act.put, List.setIfInBounds_toArray, List.set_cons_zero, List.set_cons_succ, i64_w, i32_w]
        rfl
      refine pure_ (i := 8) (N := some 14) (v := ?_) (a' := ?_) #[true, true, true, true, true, true, true, true, true, false, false, false, false, false, false, false] rfl rfl (by kernel_rfl) (fun _ _ _ h => h) (Or.inl ⟨by rfl, ?_⟩) ?_ ?_
      rotate_left
      · intro w'
        go_simp
        with_reducible rfl
      rotate_left
      · simp only [Act.put, List.setIfInBounds_toArray, List.set_cons_zero, List.set_cons_succ, i64_w, i32_w]
        rfl
      refine pure_ (i := 9) (N := some 15) (v := ?_) (a' := ?_) #[true, true, true, true, true, true, true, true, true, true, false, false, false, false, false, false] rfl rfl (by kernel_rfl) (fun _ _ _ h => h) (Or.inl ⟨by rfl, ?_⟩) ?_ ?_
      rotate_left
      · intro w'
        go_simp
        with_reducible rfl
      rotate_left
      · simp only [Act.put, List.setIfInBounds_toArray, List.set_cons_zero, List.set_cons_succ, i64_w, i32_w]
        rfl
      refine pure_ (i := 10) (N := some 16) (v := undef) (a' := ?_) #[true, true, true, true, true, true, true, true, true, true, true, false, false, false, false, false] rfl rfl (by kernel_rfl) (fun _ _ _ h => h) (Or.inr ⟨by rfl, rfl⟩) ?_ ?_
      rotate_left
      · simp only [Act.put, List.setIfInBounds_toArray, List.set_cons_zero, List.set_cons_succ, i64_w, i32_w]
        rfl
      refine pure_ (i := 11) (N := some 17) (v := undef) (a' := ?_) #[true, true, true, true, true, true, true, true, true, true, true, true, false, false, false, false] rfl rfl (by kernel_rfl) (fun _ _ _ h => h) (Or.inr ⟨by rfl, rfl⟩) ?_ ?_
      rotate_left
      · simp only [Act.put, List.setIfInBounds_toArray, List.set_cons_zero, List.set_cons_succ, i64_w, i32_w]
        rfl
      refine pure_ (i := 12) (N := some 18) (v := undef) (a' := ?_) #[true, true, true, true, true, true, true, true, true, true, true, true, true, false, false, false] rfl rfl (by kernel_rfl) (fun _ _ _ h => h) (Or.inr ⟨by rfl, rfl⟩) ?_ ?_
      rotate_left
      · simp only [Act.put, List.setIfInBounds_toArray, List.set_cons_zero, List.set_cons_succ, i64_w, i32_w]
        rfl
      refine pure_ (i := 13) (N := some 19) (v := undef) (a' := ?_) #[true, true, true, true, true, true, true, true, true, true, true, true, true, true, false, false] rfl rfl (by kernel_rfl) (fun _ _ _ h => h) (Or.inr ⟨by rfl, rfl⟩) ?_ ?_
      rotate_left
      · simp only [Act.put, List.setIfInBounds_toArray, List.set_cons_zero, List.set_cons_succ, i64_w, i32_w]
        rfl
      refine pure_ (i := 14) (N := some 20) (v := ?_) (a' := ?_) #[true, true, true, true, true, true, true, true, true, true, true, true, true, true, true, false] rfl rfl (by kernel_rfl) (fun _ _ _ h => h) (Or.inl ⟨by rfl, ?_⟩) ?_ ?_
      rotate_left
      · intro w'
        go_simp
        with_reducible rfl
      rotate_left
      · simp only [Act.put, List.setIfInBounds_toArray, List.set_cons_zero, List.set_cons_succ, i64_w, i32_w]
        rfl
      refine pure_ (i := 15) (N := some 2) (v := ?_) (a' := ?_) #[true, true, true, true, true, true, true, true, true, true, true, true, true, true, true, true] rfl rfl (by kernel_rfl) (fun _ _ _ h => h) (Or.inl ⟨by rfl, ?_⟩) ?_ ?_
      rotate_left
      · intro w'
        go_simp
        with_reducible rfl
      rotate_left
      · simp only [Act.put, List.setIfInBounds_toArray, List.set_cons_zero, List.set_cons_succ, i64_w, i32_w]
        rfl
      refine done_ (by kernel_rfl) ?_

      go_wp2_with fail
      go_ret
      exact ⟨⟨_, rfl⟩, KD.out⟩
end Go.Proofs.YtjebnpkebccffaaGreatDoor
