import Derived.Test.YtjebnpkebccffaaGreatDoorJDint
import Derived.Test.YtjebnpkebccffaaGreatDoorJIntc
import Derived.StillTailTactics
import Derived.BigQuiet
set_option linter.unusedSimpArgs false
set_option linter.unusedVariables false
set_option linter.unusedSectionVars false
namespace Go.Proofs.YtjebnpkebccffaaGreatDoor
open Go.RowKit
/-! ### DecimalTimes -/
theorem iv_set (l : List Nat) (i y : Nat) : (iv l).toArray.setIfInBounds i (.int .i64 (y : Int)) = (iv (l.set i y)).toArray := by
  simp [iv, List.map_set]
theorem iv_at (l : List Nat) (i : Nat) (h : i < l.length) : (iv l).toArray[i]? = some (.int .i64 (l.getD i 0 : Nat)) := by
  have := iv_get l i h
  simpa using this
theorem int_make (n : Nat) (h2 : n ≤ 1000000) (w : World) :
    (Instr.makeSlice 28 (.int .i64 (n : Int)) (.int .i64 (n : Int))).run Tryz.prog w = .ok (.slice (some ⟨w.heap.size, 0, none⟩) n n) (w.alloc (.cells (iv (List.replicate n 0)).toArray 3 (0, 0))) := by
  obtain ⟨i0, hi, hz0, hz1, hz2⟩ := info_parts Tryz.info3
  have := run_make (P := Tryz.prog) w 28 3 i0 _ Tryz.underlying28 hi hz0 .i64 .i64 n n (by omega) (by omega) (by rw [hz2]; omega) (by omega)
  rw [this]
  simp only [Int.toNat_natCast, hz1, Nat.mul_one]
  have e : madeCells #[.int .i64 0] n = (iv (List.replicate n 0)).toArray := by
    apply Array.ext
    · rw [size_madeCells]; simp [iv]
    · intro i h1 h2
      rw [size_madeCells] at h1
      have h3 : (madeCells #[.int .i64 0] n)[i]? = some (.int .i64 0) := by
        unfold madeCells
        simp [show i < n by simpa using h1, Nat.mod_one]
      have h4 := iv_at (List.replicate n 0) i (by simpa using h1)
      have h5 : (List.replicate n 0).getD i 0 = 0 := by simp [List.getD, List.getElem?_replicate]; split <;> rfl
      rw [h5] at h4
      rw [Array.getElem?_eq_getElem (by rw [size_madeCells]; exact h1)] at h3
      rw [Array.getElem?_eq_getElem h2] at h4
      exact Option.some.inj (h3.trans h4.symm)
  show _ = Result.ok _ (w.alloc (.cells _ 3))
  rw [← e]
  rfl
def TimesRes (w : World) (a b : Dm) (e : Ending) (w' : World) : Prop := DmRes w (nd (a.neg != b.neg) (dv a.ds * dv b.ds) (a.e + b.e)) e w'
theorem times_set {wr : World} {B i y : Nat} {l : List Nat} (h : wr.heap[B]? = some (.cells (iv l).toArray 3 (0, 0))) : (wr.setCell ⟨B, i, none⟩ (.int .i64 (y : Int))).heap[B]? = some (.cells (iv (l.set i y)).toArray 3 (0, 0)) := by
  have := heap_set_same h i (.int .i64 (y : Int))
  rwa [iv_set] at this
set_option maxRecDepth 100000 in
set_option maxHeartbeats 4000000 in
theorem DecimalTimes_any (va vb : Value) (a b : Dm) (w : World) (ha : DmAt w va a) (hb : DmAt w vb b) (hla : a.ds.length ≤ 2000) (hlb : b.ds.length ≤ 2000) (hda : ∀ x ∈ a.ds, x ≤ 9) (hdb : ∀ x ∈ b.ds, x ≤ 9) (hea : -100000 ≤ a.e ∧ a.e ≤ 100000) (heb : -100000 ≤ b.e ∧ b.e ≤ 100000) :
    Calls Tryz.prog 18 #[va, vb] w (TimesRes w a b) := by
  obtain ⟨pa, ca, ba, rfl, hsa⟩ := ha.shape2
  obtain ⟨pb, cb, bb, rfl, hsb⟩ := hb.shape2
  have HFIN : Hid (∀ l, (∀ x ∈ l, x ≤ 9) → dv l = dv a.ds * dv b.ds → decL (a.neg != b.neg) l (a.e + b.e) = nd (a.neg != b.neg) (dv a.ds * dv b.ds) (a.e + b.e)) := fun l h1 h2 => by rw [nd_of _ _ _ h1, h2]
  show Calls Tryz.prog 18 _ w (DmRes w (nd (a.neg != b.neg) (dv a.ds * dv b.ds) (a.e + b.e)))
  obtain ⟨A, hA⟩ : ∃ A, A = a.ds := ⟨_, rfl⟩
  obtain ⟨B, hB⟩ : ∃ B, B = b.ds := ⟨_, rfl⟩
  rw [← hA] at hla hda hsa HFIN ⊢
  rw [← hB] at hlb hdb hsb HFIN ⊢
  generalize hD : nd (a.neg != b.neg) (dv A * dv B) (a.e + b.e) = D at HFIN ⊢
  obtain ⟨la, hlen⟩ : ∃ n, A.length = n := ⟨_, rfl⟩
  obtain ⟨lb, hlen2⟩ : ∃ n, B.length = n := ⟨_, rfl⟩
  have k0 : Kept (fun _ => False) w (((w.alloc (.cells #[.bool a.neg, .slice pa la ca, .int .i64 a.e] 30)).alloc (.cells #[.bool b.neg, .slice pb lb cb, .int .i64 b.e] 30)).alloc (.cells #[.bool false, .slice none 0 0, .int .i64 0] 30)) := (((Kept.refl _ _).alloc _).alloc _).alloc _
  have b1 := heap_alloc_new w (.cells #[.bool a.neg, .slice pa la ca, .int .i64 a.e] 30)
  have b1 := (((Kept.refl (fun _ => False) (w.alloc (.cells #[.bool a.neg, .slice pa la ca, .int .i64 a.e] 30))).alloc (.cells #[.bool b.neg, .slice pb lb cb, .int .i64 b.e] 30)).alloc (.cells #[.bool false, .slice none 0 0, .int .i64 0] 30)).at b1 (fun f => f)
  have b2 := heap_alloc_new (w.alloc (.cells #[.bool a.neg, .slice pa la ca, .int .i64 a.e] 30)) (.cells #[.bool b.neg, .slice pb lb cb, .int .i64 b.e] 30)
  have b2 := ((Kept.refl (fun _ => False) _).alloc (.cells #[.bool false, .slice none 0 0, .int .i64 0] 30)).at b2 (fun f => f)
  have b3 := heap_alloc_new ((w.alloc (.cells #[.bool a.neg, .slice pa la ca, .int .i64 a.e] 30)).alloc (.cells #[.bool b.neg, .slice pb lb cb, .int .i64 b.e] 30)) (.cells #[.bool false, .slice none 0 0, .int .i64 0] 30)
  have e2 : (w.alloc (.cells #[.bool a.neg, .slice pa la ca, .int .i64 a.e] 30)).heap.size = w.heap.size + 1 := by simp
  have e3 : ((w.alloc (.cells #[.bool a.neg, .slice pa la ca, .int .i64 a.e] 30)).alloc (.cells #[.bool b.neg, .slice pb lb cb, .int .i64 b.e] 30)).heap.size = w.heap.size + 1 + 1 := by simp
  rw [e2] at b2
  rw [e3] at b3
  rw [hlen] at hsa hla ⊢
  rw [hlen2] at hsb hlb ⊢
  generalize hW : (((w.alloc (.cells #[.bool a.neg, .slice pa la ca, .int .i64 a.e] 30)).alloc (.cells #[.bool b.neg, .slice pb lb cb, .int .i64 b.e] 30)).alloc (.cells #[.bool false, .slice none 0 0, .int .i64 0] 30)) = W at *
  have hWs : W.heap.size = w.heap.size + 3 := by rw [← hW]; simp
  have mk := int_make (la + lb + 1) (by omega) W
  rw [show ((la + lb + 1 : Nat) : Int) = (la : Int) + (lb : Int) + 1 by omega] at mk
  have m1 : Kept (fun i => i = W.heap.size) W (W.alloc (.cells (iv (List.replicate (la + lb + 1) 0)).toArray 3 (0, 0))) := (Kept.refl _ _).alloc _
  have m2 := heap_alloc_new W (.cells (iv (List.replicate (la + lb + 1) 0)).toArray 3 (0, 0))
  generalize hX : W.alloc (.cells (iv (List.replicate (la + lb + 1) 0)).toArray 3 (0, 0)) = X at *
  have HXA : Hid (∀ wr, Kept (fun i => i = W.heap.size) W wr → (wr.heap[w.heap.size]? = some (.cells #[.bool a.neg, .slice pa la ca, .int .i64 a.e] 30 (0, 0)) ∧ wr.heap[w.heap.size + 1]? = some (.cells #[.bool b.neg, .slice pb lb cb, .int .i64 b.e] 30 (0, 0)) ∧ wr.heap[w.heap.size + 1 + 1]? = some (.cells #[.bool false, .slice none 0 0, .int .i64 0] 30 (0, 0))) ∧ Kept (fun _ => False) w wr) := fun wr hk =>
    ⟨⟨hk.at b1 (by omega), hk.at b2 (by omega), hk.at b3 (by omega)⟩, k0.trans hk (fun _ _ f => f) (fun i hi e => by omega)⟩
  have HSA : Hid (∀ wr, Kept (fun _ => False) w wr → ∀ i, i < la → ∃ (k o : Nat), pa = some ⟨k, o, none⟩ ∧ wr.cell? ⟨k, o + i, none⟩ = some (.int .i64 ((A.getD i 0 : Nat) : Int))) := fun wr hk i hi => by
    have h := hsa.old hk
    cases ba with
    | none => rw [h.2] at hlen; simp at hlen; omega
    | some k =>
      obtain ⟨o, cap, cs, h1, h2, h3, h4, h5⟩ := h
      injection h1 with h1
      exact ⟨k, o, h1, by rw [cell_of h4]; exact h5 i (by omega)⟩
  have HSB : Hid (∀ wr, Kept (fun _ => False) w wr → ∀ i, i < lb → ∃ (k o : Nat), pb = some ⟨k, o, none⟩ ∧ wr.cell? ⟨k, o + i, none⟩ = some (.int .i64 ((B.getD i 0 : Nat) : Int))) := fun wr hk i hi => by
    have h := hsb.old hk
    cases bb with
    | none => rw [h.2] at hlen2; simp at hlen2; omega
    | some k =>
      obtain ⟨o, cap, cs, h1, h2, h3, h4, h5⟩ := h
      injection h1 with h1
      exact ⟨k, o, h1, by rw [cell_of h4]; exact h5 i (by omega)⟩
  obtain ⟨⟨g1, g2, g3⟩, g4⟩ := HXA.out X m1
  have HM2 := Lib.hid m2
  have HM1 := Lib.hid m1
  have HDA := Lib.hid hda
  have HDB := Lib.hid hdb
  have HLA := Lib.hid hlen
  have HLB := Lib.hid hlen2
  have HWS := Lib.hid hWs
  have HEA := Lib.hid hea
  have HEB := Lib.hid heb
  obtain ⟨c0, c1, c2⟩ := cells3 b1
  obtain ⟨d0, d1, d2⟩ := cells3 b2
  obtain ⟨x0, x1, x2⟩ := cells3 g1
  obtain ⟨y0, y1, y2⟩ := cells3 g2
  clear hda hdb hlen hlen2 hWs m1 m2 g1 g2 g3 g4 hsa hsb ha hb k0 b1 b2 b3 e2 e3 hX hD hA hB hea heb
  go_enter Tryz.func18, Tryz.ntmps18
  go_wp2_with fail
  clear hW mk
  go_loopw [21] (fun v wr => ∃ (i : Nat) (l : List Nat), v = .int .i64 (i : Int) ∧ i ≤ la ∧ Hid (wr.heap[W.heap.size]? = some (.cells (iv l).toArray 3 (0, 0))) ∧ Hid (TI A B i 0 l) ∧ Hid (Kept (fun i => i = W.heap.size) W wr)) (fun v _ => la - uOf v)
  case atStart => exact ⟨0, _, rfl, by omega, HM2, Lib.hid (by have := TI.start A B; rwa [HLA.out, HLB.out] at this), HM1⟩
  case round =>
    obtain ⟨i, l, rfl, hi, HL, HT, HK⟩ := hrel
    rcases Nat.lt_or_ge i la with hlt | hge
    · obtain ⟨⟨g1, g2, g3⟩, g4⟩ := HXA.out wr HK.out
      obtain ⟨x0, x1, x2⟩ := cells3 g1
      obtain ⟨y0, y1, y2⟩ := cells3 g2
      clear g1 g2 g3 g4
      go_wp2_with fail
      go_loopw [27] (fun v wr => ∃ (k : Nat) (l : List Nat), v = .int .i64 (k : Int) ∧ k ≤ lb ∧ Hid (wr.heap[W.heap.size]? = some (.cells (iv l).toArray 3 (0, 0))) ∧ Hid (TI A B i k l) ∧ Hid (Kept (fun i => i = W.heap.size) W wr)) (fun v _ => lb - uOf v)
      case atStart => exact ⟨0, l, rfl, by omega, HL, HT, HK⟩
      case round =>
        clear HL HT HK
        obtain ⟨k, l, rfl, hk, HL, HT, HK⟩ := hrel
        rcases Nat.lt_or_ge k lb with hltk | hgek
        · obtain ⟨⟨g1, g2, g3⟩, g4⟩ := HXA.out wr HK.out
          obtain ⟨x0, x1, x2⟩ := cells3 g1
          obtain ⟨y0, y1, y2⟩ := cells3 g2
          obtain ⟨ka, oa, rfl, ea⟩ := HSA.out wr g4 i hlt
          obtain ⟨kb, ob, rfl, eb⟩ := HSB.out wr g4 k hltk
          have hll : l.length = la + lb + 1 := by have := HT.out.1; rw [HLA.out, HLB.out] at this; exact this
          have el : wr.cell? ⟨W.heap.size, i + k + 2, none⟩ = some (.int .i64 ((l.getD (i + k + 2) 0 : Nat) : Int)) := by rw [cell_of HL.out]; exact iv_at l _ (by omega)
          have bl : l.getD (i + k + 2) 0 ≤ 81 * 4002000 := by
            have h1 := HT.out.2.1 (i + k + 2)
            have h2 : i * B.length ≤ 2000 * 2000 := Nat.mul_le_mul (by omega) (by rw [HLB.out]; omega)
            omega
          have ba : A.getD i 0 ≤ 9 := HDA.out _ (getD_mem (by rw [HLA.out]; exact hlt))
          have bb : B.getD k 0 ≤ 9 := HDB.out _ (getD_mem (by rw [HLB.out]; exact hltk))
          have bab : A.getD i 0 * B.getD k 0 ≤ 9 * 9 := Nat.mul_le_mul ba bb
          have HT2 := Lib.hid (HT.out.step HDA.out HDB.out (by rw [HLA.out]; exact hlt) (by rw [HLB.out]; exact hltk))
          have HS2 : Hid ((wr.drew.setCell ⟨W.heap.size, i + k + 2, none⟩ (.int .i64 ((l.getD (i + k + 2) 0 + A.getD i 0 * B.getD k 0 : Nat) : Int))).heap[W.heap.size]? = some (.cells (iv (l.set (i + k + 2) (l.getD (i + k + 2) 0 + A.getD i 0 * B.getD k 0))).toArray 3 (0, 0))) := times_set (wr := wr.drew) HL.out
          have HK2 : Hid (Kept (fun i => i = W.heap.size) W (wr.drew.setCell ⟨W.heap.size, i + k + 2, none⟩ (.int .i64 ((l.getD (i + k + 2) 0 + A.getD i 0 * B.getD k 0 : Nat) : Int)))) := HK.out.drew.setCell _ _ (fun _ => rfl)
          have ff := frozen_of HL.out (i + k + 2)
          generalize l.set (i + k + 2) (l.getD (i + k + 2) 0 + A.getD i 0 * B.getD k 0) = l2 at HT2 HS2
          generalize hx : l.getD (i + k + 2) 0 = x at *
          generalize hp : A.getD i 0 = p at *
          generalize hq : B.getD k 0 = q at *
          clear g1 g2 g3 g4 hll hx hp hq HL HT HK
          rw [show ((x + p * q : Nat) : Int) = (x : Int) + (p : Int) * (q : Int) by simp] at HS2 HK2
          have bpq : (0 : Int) ≤ (p : Int) * (q : Int) ∧ (p : Int) * (q : Int) ≤ 81 := by rw [← Int.natCast_mul]; omega
          obtain ⟨bp1, bp2⟩ := bpq
          go_wp2_with fail
          refine wp_region_still_tail 20 (by kernel_rfl) (by kernel_rfl) ?_
          simp only [List.take_succ_cons, List.take_zero, List.drop_succ_cons, List.drop_zero]
          refine wpStill_of_quiet _ _ ?_
          change wpQuiet _ _ (fun w' => w' = wr.drew) _ _ _
          repeat (go_big_quiet_step (fail))
          refine wpQuiet_nil ?_
          change wpList _ _ _ _ _ wr.drew
          go_wp2_with fail
          go_roundw
          case rel => exact ⟨k + 1, l2, rfl, by omega, HS2, HT2, HK2⟩
          case measure => simp [uOf]; omega
        · obtain rfl : k = lb := by omega
          go_wp2_with fail
          go_roundw
          case rel => exact ⟨i + 1, l, rfl, by omega, HL, Lib.hid (TI.row (by have := HT.out; rwa [HLB.out]) (by rw [HLA.out]; exact hlt)), HK⟩
          case measure => simp [uOf]; omega
    · obtain rfl : la = i := by omega
      have HC : Hid (CI (81 * (A.length * B.length)) (dv A * dv B) (la + lb + 1) (la + lb) l) := by
        have := CI.start (A := A) (B := B) (l := l) (by rw [HLA.out]; exact HT.out)
        rw [HLA.out, HLB.out] at this ⊢
        exact this
      have bM : A.length * B.length ≤ 2000 * 2000 := Nat.mul_le_mul (by rw [HLA.out]; exact hla) (by rw [HLB.out]; exact hlb)
      generalize hM : 81 * (A.length * B.length) = M at *
      have bM2 : M ≤ 324000000 := by omega
      clear bM hM HT hi
      go_wp2_with fail
      go_loopw [8] (fun v wr => ∃ (j : Nat) (l : List Nat), v = .int .i64 (j : Int) ∧ j ≤ la + lb ∧ Hid (wr.heap[W.heap.size]? = some (.cells (iv l).toArray 3 (0, 0))) ∧ Hid (CI M (dv A * dv B) (la + lb + 1) j l) ∧ Hid (Kept (fun i => i = W.heap.size) W wr)) (fun v _ => uOf v)
      case atStart => exact ⟨la + lb, l, by simp, by omega, HL, HC, HK⟩
      case round =>
        clear HL HC HK
        obtain ⟨j, l, rfl, hj, HL, HC, HK⟩ := hrel
        rcases Nat.eq_zero_or_pos j with rfl | hpos
        · have hll : l.length = la + lb + 1 := HC.out.1
          have hdig := HC.out.done (n := la + lb) (by rw [HLA.out, HLB.out]) (by rw [HLA.out, HLB.out]) HDA.out HDB.out
          have hdec := HFIN.out l hdig HC.out.2.1
          have hns : NsAt wr (.slice (some ⟨W.heap.size, 0, none⟩) (la + lb + 1) (la + lb + 1)) l (some W.heap.size) := ⟨0, la + lb + 1, (iv l).toArray, by rw [hll], by omega, by simp [iv, hll], HL.out, fun i hi => by rw [Nat.zero_add]; exact iv_at l i hi⟩
          have HNS := Lib.hid hns
          obtain ⟨⟨g1, g2, g3⟩, g4⟩ := HXA.out wr HK.out
          obtain ⟨x0, x1, x2⟩ := cells3 g1
          obtain ⟨y0, y1, y2⟩ := cells3 g2
          have hb1 := HEA.out
          have hb2 := HEB.out
          have HG3 := Lib.hid g3
          have HG4 := Lib.hid g4
          have HLL := Lib.hid hll
          have HDEC := Lib.hid hdec
          clear hll hdig hns g1 g2 g3 g4 hdec HL HC HK
          have hneg : ∃ n3, n3 = (a.neg != b.neg) := ⟨_, rfl⟩
          obtain ⟨n3, hneg⟩ := hneg
          rw [← hneg] at HDEC
          obtain ⟨hb3, hb4⟩ := hb1
          obtain ⟨hb5, hb6⟩ := hb2
          generalize a.neg = an at *
          generalize b.neg = bn at *
          generalize a.e = ae at *
          generalize b.e = be at *
          have key : Calls Tryz.prog 36 #[.bool n3, .slice (some ⟨W.heap.size, 0, none⟩) (la + lb + 1) (la + lb + 1), .int .i64 (ae + be)] wr (DmRes wr D) := by
            rw [← HDEC.out]
            exact decimal_any n3 _ _ l _ wr HNS.out (by rw [HLL.out]; omega) (by omega)
          have KEY := Lib.hid key
          clear key
          cases an <;> cases bn <;> subst hneg
          all_goals
            go_wp2_with fail
            refine KEY.out.mono ?_
            rintro e w2 ⟨v, rfl, hv, hk⟩
            obtain ⟨p, n', c', b', rfl, hs⟩ := hv.shape
            have hb2 := hk.at HG3.out (fun f => f)
            obtain ⟨z0, z1, z2⟩ := cells3 hb2
            have f0 := frozen_of hb2 0
            have f1 := frozen_of hb2 1
            have f2 := frozen_of hb2 2
            have HNE := Lib.hid (hs.ne hb2 (by decide))
            have st := store3 hb2 (.bool D.neg) (.slice p n' c') (.int .i64 D.e)
            generalize hW3 : (((w2.setCell ⟨w.heap.size + 1 + 1, 0, none⟩ (.bool D.neg)).setCell ⟨w.heap.size + 1 + 1, 1, none⟩ (.slice p n' c')).setCell ⟨w.heap.size + 1 + 1, 2, none⟩ (.int .i64 D.e)) = W3 at st
            have S1 := Lib.hid st.1
            have S2 := Lib.hid st.2
            have HS := Lib.hid hs
            have HKW := Lib.hid (HG4.out.same hk)
            clear st hs hk hb2 hv
            go_wp2_with fail
            obtain ⟨d0, d1, d2⟩ := cells3 S1.out
            refine bodyPost_ret (v := .agg #[.bool D.neg, .slice p n' c', .int .i64 D.e]) ?_ rfl ⟨_, rfl, ⟨_, b', rfl, HS.out.kept S2.out HNE.out⟩, HKW.out.trans S2.out (fun _ _ f => f) (fun j hj h => by omega)⟩
            simp [results, Tryz.f18, loadVar, go_sem, d0, d1, d2]
        · have hll : l.length = la + lb + 1 := HC.out.1
          have e1 : wr.cell? ⟨W.heap.size, j, none⟩ = some (.int .i64 ((l.getD j 0 : Nat) : Int)) := by rw [cell_of HL.out]; exact iv_at l _ (by omega)
          have e0 : wr.cell? ⟨W.heap.size, j - 1, none⟩ = some (.int .i64 ((l.getD (j - 1) 0 : Nat) : Int)) := by rw [cell_of HL.out]; exact iv_at l _ (by omega)
          have b1 : l.getD j 0 ≤ 2 * M := HC.out.2.2.2.2
          have b0 : l.getD (j - 1) 0 ≤ M := HC.out.2.2.2.1 _ (by omega)
          have HC2 := Lib.hid (HC.out.step hpos (by omega))
          have hs1 : (wr.drew.setCell ⟨W.heap.size, j - 1, none⟩ (.int .i64 ((l.getD (j - 1) 0 + l.getD j 0 / 10 : Nat) : Int))).heap[W.heap.size]? = some (.cells (iv (l.set (j - 1) (l.getD (j - 1) 0 + l.getD j 0 / 10))).toArray 3 (0, 0)) := times_set (wr := wr.drew) HL.out
          have hk1 : Kept (fun i => i = W.heap.size) W (wr.drew.setCell ⟨W.heap.size, j - 1, none⟩ (.int .i64 ((l.getD (j - 1) 0 + l.getD j 0 / 10 : Nat) : Int))) := HK.out.drew.setCell _ _ (fun _ => rfl)
          have hs2 : ((wr.drew.setCell ⟨W.heap.size, j - 1, none⟩ (.int .i64 ((l.getD (j - 1) 0 + l.getD j 0 / 10 : Nat) : Int))).setCell ⟨W.heap.size, j, none⟩ (.int .i64 ((l.getD j 0 % 10 : Nat) : Int))).heap[W.heap.size]? = some (.cells (iv (cstep l j)).toArray 3 (0, 0)) := times_set hs1
          have hk2 : Kept (fun i => i = W.heap.size) W ((wr.drew.setCell ⟨W.heap.size, j - 1, none⟩ (.int .i64 ((l.getD (j - 1) 0 + l.getD j 0 / 10 : Nat) : Int))).setCell ⟨W.heap.size, j, none⟩ (.int .i64 ((l.getD j 0 % 10 : Nat) : Int))) := hk1.setCell _ _ (fun _ => rfl)
          have f0 := frozen_of HL.out (j - 1)
          have hs0 : (wr.setCell ⟨W.heap.size, j - 1, none⟩ (.int .i64 ((l.getD (j - 1) 0 + l.getD j 0 / 10 : Nat) : Int))).heap[W.heap.size]? = some (.cells (iv (l.set (j - 1) (l.getD (j - 1) 0 + l.getD j 0 / 10))).toArray 3 (0, 0)) := times_set HL.out
          have f1 := frozen_of hs0 j
          have e2 : (wr.setCell ⟨W.heap.size, j - 1, none⟩ (.int .i64 ((l.getD (j - 1) 0 + l.getD j 0 / 10 : Nat) : Int))).cell? ⟨W.heap.size, j, none⟩ = some (.int .i64 ((l.getD j 0 : Nat) : Int)) := by
            rw [cell_of hs0, iv_at _ _ (by simp; omega), set_getD _ _ _ _ (by omega), if_neg (by omega)]
          clear hs0
          generalize cstep l j = l2 at *
          generalize hx : l.getD j 0 = x at *
          generalize hy : l.getD (j - 1) 0 = y at *
          obtain ⟨i, rfl⟩ : ∃ i, j = i + 1 := ⟨j - 1, by omega⟩
          rw [show i + 1 - 1 = i by omega] at *
          rw [show ((y + x / 10 : Nat) : Int) = (y : Int) + (x : Int) / 10 by omega] at hs1 hk1 hs2 hk2 f1 e2
          rw [show ((x % 10 : Nat) : Int) = (x : Int) % 10 by omega] at hs2 hk2
          have HS2 := Lib.hid hs2
          have HK2 := Lib.hid hk2
          clear hll hx hy HL HC HK hs1 hk1 hs2 hk2
          go_wp2_with fail
          refine wp_region_still_tail 12 (by kernel_rfl) (by kernel_rfl) ?_
          simp only [List.take_succ_cons, List.take_zero, List.drop_succ_cons, List.drop_zero]
          refine wpStill_of_quiet _ _ ?_
          change wpQuiet _ _ (fun w' => w' = wr.drew) _ _ _
          repeat (go_big_quiet_step (fail))
          refine wpQuiet_nil ?_
          change wpList _ _ _ _ _ wr.drew
          go_wp2_with fail
          go_roundw
          case rel => exact ⟨i, l2, rfl, by omega, HS2, HC2, HK2⟩
          case measure => simp [uOf]
end Go.Proofs.YtjebnpkebccffaaGreatDoor
