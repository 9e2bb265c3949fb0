import Derived.Test.YtjebnpkebccffaaGreatDoorKDece
import Derived.Test.YtjebnpkebccffaaGreatDoorKRd
import Derived.Test.YtjebnpkebccffaaGreatDoorKDecs
import Derived.OwnWalk
import Derived.Maps.AppendAt
import Derived.WalkMore
import Derived.Deep.LoopGhost
set_option linter.unusedSimpArgs false
set_option linter.unusedVariables false
set_option linter.unusedSectionVars false
namespace Go.Proofs.YtjebnpkebccffaaGreatDoor
open Go.RowKit
def cnt (pt k : Nat) : Nat := if k ≤ pt then k else k - 1
structure Spells (s : ByteArray) (pt : Nat) (u : Nat → Nat) : Prop where
  dig : ∀ k (h : k < s.size), k ≠ pt → s[k].toNat = 48 + u (cnt pt k)
  pnt : ∀ h : pt < s.size, s[pt].toNat = 46
  low : ∀ j, u j ≤ 9
def ub (u : Nat → Nat) (m : Nat) : List Value := (List.range m).map fun j => .int .u8 ((48 + u j : Nat) : Int)
theorem ub_succ (u : Nat → Nat) (m : Nat) : ub u (m + 1) = ub u m ++ [.int .u8 ((48 + u m : Nat) : Int)] := by simp [ub, List.range_succ]
theorem grown_kept {S : Nat → Prop} {w w1 w2 : World} {q : Nat} (h : Kept S w w1) (g : w1.grownBy w2 (some q)) (hq : q < w.heap.size → S q) : Kept S w w2 := by
  obtain ⟨g1, g2, g3, g4, g5⟩ := g
  exact ⟨g1.trans h.os, g2.trans h.tape, g3.trans h.output, Nat.le_trans h.size g4, fun k hk hs => (g5 k (Nat.lt_of_lt_of_le hk h.size) (fun e => by injection e with e; subst e; exact hs (hq hk))).trans (h.block k hk hs)⟩
theorem cap_make (n c : Nat) (h1 : n ≤ c) (h2 : c ≤ 1000000) (w : World) :
    (Instr.makeSlice 57 (.int .i64 (n : Int)) (.int .i64 (c : Int))).run Tryz.prog w = .ok (.slice (some ⟨w.heap.size, 0, none⟩) n c) (w.alloc (.cells (zb c) 5)) := by
  obtain ⟨i0, hi, hz0, hz1, hz2⟩ := info_parts Tryz.info5
  have := run_make (P := Tryz.prog) w 57 5 i0 _ Tryz.underlying57 hi hz0 .i64 .i64 n c (by omega) (by omega) (by rw [hz2]; omega) (by omega)
  rw [this]
  simp only [Int.toNat_natCast, hz1, Nat.mul_one]
  rfl
def rdPos (w : World) (p : Nat) : Nat := match w.cell? ⟨p, 1, none⟩ with | some v => (intOf v).toNat | none => 0
theorem rdPos_at {w : World} {p k : Nat} {s : ByteArray} (h : RdAt w p s k) : rdPos w p = k := by
  obtain ⟨j, h1⟩ := h
  obtain ⟨_, c1, _⟩ := rd_cells h1
  unfold rdPos
  rw [c1]
  simp [intOf]
theorem row_new (w : World) (u : Nat → Nat) : (w.alloc (.cells (zb 256) 5)).ownsRow 0 5 1 (.slice (some ⟨w.heap.size, 0, none⟩) 0 256) 0 (ub u 0) :=
  ⟨by simp [ub], Or.inr ⟨w.heap.size, 256, zb 256, rfl, Nat.zero_le _, heap_alloc_new _ _, by omega, by unfold maxLen; omega, size_madeCells _ _, by simp [ub]⟩⟩
theorem row_kept {S : Nat → Prop} {w w' : World} {q m : Nat} {xs : List Value} (h : w.ownsRow 0 5 1 (.slice (some ⟨q, 0, none⟩) m 256) m xs) (hk : Kept S w w') (hq : ¬ S q) : w'.ownsRow 0 5 1 (.slice (some ⟨q, 0, none⟩) m 256) m xs := by
  refine ⟨h.1, ?_⟩
  rcases h.2 with hn | ⟨g, cap, cur, hv, hg, hgg, rest⟩
  · exact Or.inl hn
  · injection hv with hv1 hv2 hv3
    injection hv1 with hv1
    injection hv1 with hv1
    subst hv1
    exact Or.inr ⟨q, cap, cur, by rw [hv3], hg, by rw [hk.block q (heap_lt hgg) hq]; exact hgg, rest⟩
theorem rd_grown {w1 w4 : World} {p q i : Nat} {s : ByteArray} {o : Obj} (h : RdAt w1 p s i) (g : (w1.alloc o).grownBy w4 (some q)) (hq : q ≠ p) : RdAt w4 p s i := by
  obtain ⟨j, h1⟩ := h
  obtain ⟨g1, g2, g3, g4, g5⟩ := g
  have hl := heap_lt h1
  refine ⟨j, ?_⟩
  rw [g5 p (by simp; omega) (by intro e; injection e with e; exact hq e.symm), Below.heap_alloc _ _ _ hl]
  exact h1
def ustr (u : Nat → Nat) (m : Nat) : ByteArray := strN ((List.range m).map fun j => 48 + u j)
theorem row_text {w : World} {q m : Nat} {u : Nat → Nat} (h : w.ownsRow 0 5 1 (.slice (some ⟨q, 0, none⟩) m 256) m (ub u m)) (hm : 1 ≤ m) : (convert 57 9 (.slice (some ⟨q, 0, none⟩) m 256)).run Tryz.prog w = .ok (.string (ustr u m)) w := by
  rcases h.2 with hn | ⟨g, cap, cur, hv, hg, hgg, h1, h2, h3, h4⟩
  · exact absurd hn.2 (by omega)
  · have hqg : q = g := by
      simp only [Value.slice.injEq, Option.some.injEq, Addr.mk.injEq] at hv
      exact hv.1.1
    subst hqg
    have hb : HasB cur 0 ((List.range m).map fun j => 48 + u j) := by
      intro i hi
      simp at hi
      have e : (cur.toList.take (m * 1))[i]? = (ub u m)[i]? := by rw [h4]
      rw [List.getElem?_take_of_lt (by omega)] at e
      simp [ub, hi] at e
      simp [List.getD, hi, e]
    have := conv_text (cap := 256) hgg hb
    simpa [ustr] using this
theorem ustr_size (u : Nat → Nat) (m : Nat) : (ustr u m).size = m := by simp [ustr, strN, strOfNums_size]
theorem ustr_get (u : Nat → Nat) (m : Nat) (hu : ∀ j, u j ≤ 9) (k : Nat) (h : k < (ustr u m).size) : (ustr u m)[k].toNat = 48 + u k ∧ u k ≤ 9 := by
  refine ⟨?_, hu k⟩
  have hk : k < m := by rwa [ustr_size] at h
  have hh := hu k
  show ((ustr u m).data[k]'h).toNat = _
  simp [ustr, strN, strOfNums]
  omega
def DscanRes (w : World) (z p : Nat) (s : ByteArray) (bz : Option Nat) (n sc : Int) (e : Ending) (w' : World) : Prop :=
  e = .returned (.tuple #[.pointer (some ⟨z, 0, none⟩), .nilIface]) ∧ ∃ b', DecAt w' z n sc b' ∧ Own w bz b' ∧ Kept (fun k => k = z ∨ k = p ∨ bz = some k) w w' ∧ RdAt w' p s s.size
set_option maxRecDepth 100000 in
set_option maxHeartbeats 4000000 in
theorem Dec_scan_digits (z p pt : Nat) (nz sz : Int) (bz : Option Nat) (s : ByteArray) (u : Nat → Nat) (a : Addr) (w : World) (hz : DecAt w z nz sz bz) (h : RdAt w p s 0) (hs0 : 1 ≤ cnt pt s.size) (hs : s.size ≤ 200) (he : Eof w a) (hsp : Spells s pt u) (hbp : bz ≠ some p) (hb3 : bz ≠ some 3) (n : Nat) (hn : n = dval u (cnt pt s.size)) (sc : Int) (hsc : sc = if pt < s.size then (cnt pt s.size : Int) - pt else 0) :
    Calls Tryz.prog 94 #[.pointer (some ⟨z, 0, none⟩), .iface 159 (.pointer (some ⟨p, 0, none⟩))] w (DscanRes w z p s bz (n : Nat) sc) := by
  have HZ := Lib.hid hz
  have HR := Lib.hid h
  have HE := Lib.hid he
  have HSP := Lib.hid hsp
  have hp3 := rd_ne3 h he
  have HN := Lib.hid hn
  have HSC := Lib.hid hsc
  clear hn hsc
  have q1 := fun a w => m_rr a w
  have q2 := fun w => e_nn w
  have q3 := fun a w => e_ex a w
  have q4 := fun a w => e_xx a w
  have mk : ∀ w : World, (Instr.makeSlice 57 (.int .i64 0) (.int .i64 256)).run Tryz.prog w = .ok (.slice (some ⟨w.heap.size, 0, none⟩) 0 256) (w.alloc (.cells (zb 256) 5)) := fun w => cap_make 0 256 (by omega) (by omega) w
  clear hz h he hsp
  go_enter Tryz.func94, Tryz.ntmps94
  go_wp2_with fail
  go_step3
  go_wp2_with fail
  go_step3
  go_wp2_with fail
  have hq : w.heap.size ≠ p := by obtain ⟨j, h⟩ := HR.out; have := heap_lt h; omega
  have hrow := row_new w u
  have ka : Kept (fun x => x = p) w (w.alloc (.cells (zb 256) 5)) := (Kept.refl _ _).alloc _
  have hr1 : RdAt (w.alloc (.cells (zb 256) 5)) p s 0 := by
    obtain ⟨j, h⟩ := HR.out
    exact ⟨j, by rw [((Kept.refl (fun _ => False) w).alloc (.cells (zb 256) 5)).block p (heap_lt h) (fun f => f)]; exact h⟩
  have HROW := Lib.hid hrow
  have KA := Lib.hid ka
  have HR1 := Lib.hid hr1
  obtain ⟨q, HQ⟩ : ∃ q, Hid (w.heap.size = q) := ⟨_, Lib.hid rfl⟩
  rw [HQ.out] at HROW hq ⊢
  have HRD0 := Lib.hid HR.out
  clear hrow ka hr1 mk HR
  have q6 := fun a w => e_xx a w
  go_loopw [6, 7, 8] (fun v dp dg wr => ∃ (k : Nat) (DP DG : Int), k ≤ s.size ∧ v = .slice (some ⟨q, 0, none⟩) (cnt pt k) 256 ∧ dp = .int .i64 DP ∧ dg = .int .i64 DG ∧ Hid (DP = if pt < k then (pt : Int) else -1) ∧ Hid (DG = if cnt pt k = 0 then -1 else 0) ∧ RdAt wr p s k ∧ wr.ownsRow 0 5 1 v (cnt pt k) (ub u (cnt pt k)) ∧ Kept (fun x => x = p) w wr) (fun _ _ _ wr => s.size - rdPos wr p)
  case atStart => exact ⟨0, -1, -1, by omega, by simp [cnt], rfl, rfl, Lib.hid (by simp), Lib.hid (by simp [cnt]), HR1.out, by simpa [cnt] using HROW.out, KA.out⟩
  case round =>
    obtain ⟨k, DP, DG, hk, rfl, rfl, rfl, HDP, HDG, hrd, hrow, hkp⟩ := hrel
    have HRD := Lib.hid hrd
    have HROW2 := Lib.hid hrow
    have HKP := Lib.hid hkp
    have hcl : cnt pt k ≤ k := by unfold cnt; split <;> omega
    clear hrd hrow hkp HROW KA HR1
    rcases Nat.lt_or_ge k s.size with hlt | hge
    · by_cases hpt : k = pt
      · have h46 := HSP.out.pnt (by omega)
        have hdp : DP = -1 := by rw [HDP.out, if_neg (by omega)]
        subst hdp
        have hcn : cnt pt (k + 1) = cnt pt k := by unfold cnt; rw [if_neg (by omega), if_pos (by omega)]; omega
        have HPOS : Hid (rdPos wr p = k) := rdPos_at HRD.out
        have hck : cnt pt k = pt := by unfold cnt; rw [if_pos (by omega)]; exact hpt
        have h46' : s[k].toNat = 46 := by subst hpt; exact h46
        have HRR := Lib.hid (ReadRune_ok p s k wr HRD.out hlt (by omega) (by omega))
        have HCN := Lib.hid hcn
        have HCK := Lib.hid hck
        rw [h46'] at HRR
        generalize hm : cnt pt k = m at *
        have HM := Lib.hid hm
        have hm200 : m ≤ 200 := by omega
        clear hcn hck hm h46 h46' HRD
        go_wp2_with fail
        refine HRR.out.mono ?_
        rintro e w1 ⟨rfl, h1, h2⟩
        have c3 : w1.cell? ⟨3, 0, none⟩ = some (.iface 257 (.pointer (some a))) := HE.out.kept (HKP.out.same h2) (Ne.symm hp3)
        have H1 := Lib.hid h1
        have H2 := Lib.hid (HKP.out.same h2)
        have H3 := Lib.hid (row_kept HROW2.out h2 hq)
        clear h1 h2 HRR
        go_wp2_with fail
        have hpos : rdPos w1 p = k + 1 ∧ rdPos wr p = k := ⟨rdPos_at H1.out, HPOS.out⟩
        go_roundw
        case rel => exact ⟨k + 1, (m : Int), DG, by omega, by rw [HCN.out], rfl, rfl, Lib.hid (by rw [if_pos (by omega), HCK.out]), by rw [HCN.out]; exact HDG, H1.out, by rw [HCN.out]; exact H3.out, H2.out⟩
        case measure => omega
      · have hdig := HSP.out.dig k hlt hpt
        have hlow := HSP.out.low (cnt pt k)
        have hcn : cnt pt (k + 1) = cnt pt k + 1 := by
          unfold cnt
          by_cases h : k ≤ pt
          · rw [if_pos h, if_pos (by omega)]
          · rw [if_neg h, if_neg (by omega)]; omega
        have HRR := Lib.hid (ReadRune_ok p s k wr HRD.out hlt (by omega) (by omega))
        have HPOS : Hid (rdPos wr p = k) := rdPos_at HRD.out
        have hdp2 : DP = if pt < k + 1 then (pt : Int) else -1 := by
          rw [HDP.out]
          by_cases h : pt < k
          · rw [if_pos h, if_pos (by omega)]
          · rw [if_neg h, if_neg (by omega)]
        have HDP2 := Lib.hid hdp2
        have HCN := Lib.hid hcn
        generalize hm : cnt pt k = m at *
        generalize s[k].toNat = c at *
        have hm200 : m ≤ 200 := by omega
        have hcell : (c : Int) = ((48 + u m : Nat) : Int) := by omega
        have HCELL := Lib.hid hcell
        have l1 : 48 ≤ c := by omega
        have l2 : c ≤ 57 := by omega
        have g1 : ((c : Int) == 43) = false := beqF (by omega)
        have g2 : ((c : Int) == 45) = false := beqF (by omega)
        have g3 : ((c : Int) == 46) = false := beqF (by omega)
        have g4 : decide ((48 : Int) ≤ (c : Int)) = true := decT (by omega)
        have g5 : decide ((c : Int) ≤ 57) = true := decT (by omega)
        obtain ⟨i0, hi, hz0, hz1, hz2⟩ := info_parts Tryz.info5
        clear hcn hm HRD hdp2 hcell hdig hlow hz0 hz2
        by_cases hz : m = 0
        · subst hz
          have hdg : DG = -1 := by rw [HDG.out, if_pos rfl]
          subst hdg
          go_wp2_with fail
          refine HRR.out.mono ?_
          rintro e w1 ⟨rfl, h1, h2⟩
          have c3 : w1.cell? ⟨3, 0, none⟩ = some (.iface 257 (.pointer (some a))) := HE.out.kept (HKP.out.same h2) (Ne.symm hp3)
          have H1 := Lib.hid h1
          have H2 := Lib.hid (HKP.out.same h2)
          have H3 := Lib.hid (row_kept HROW2.out h2 hq)
          clear h1 h2 HRR
          go_wp2_with (at_builtin; refine wpList_append_fits _ rfl (.tmp 65) (.tmp 68) 57 rfl 0 5 i0 1 Tryz.underlying57 hi hz1 q 0 256 _ rfl (H3.out.alloc _) ⟨w1.heap.size, 0, none⟩ 1 1 [.int .u8 (c : Int)] rfl rfl (cell_one_new _ _ _) (ints_oneCell .u8 [(c : Int)]) (by omega) ?_; intro w4 hown4 hgrow4)
          go_roundw
          case rel =>
            rw [HCELL.out, ← ub_succ] at hown4
            have hk4 : Kept (fun x => x = p) w w4 := grown_kept (H2.out.alloc _) hgrow4 (fun hlt' => by have := HQ.out; omega)
            exact ⟨k + 1, DP, 0, by omega, by rw [HCN.out], rfl, rfl, HDP2, Lib.hid (by rw [HCN.out, if_neg (by omega)]), rd_grown H1.out hgrow4 hq, by rw [HCN.out]; exact hown4, hk4⟩
          case measure =>
            have h1 := rdPos_at (rd_grown H1.out hgrow4 hq)
            have h2 := HPOS.out
            omega
        · have hdg : DG = 0 := by rw [HDG.out, if_neg hz]
          subst hdg
          go_wp2_with fail
          refine HRR.out.mono ?_
          rintro e w1 ⟨rfl, h1, h2⟩
          have c3 : w1.cell? ⟨3, 0, none⟩ = some (.iface 257 (.pointer (some a))) := HE.out.kept (HKP.out.same h2) (Ne.symm hp3)
          have H1 := Lib.hid h1
          have H2 := Lib.hid (HKP.out.same h2)
          have H3 := Lib.hid (row_kept HROW2.out h2 hq)
          clear h1 h2 HRR
          go_wp2_with (at_builtin; refine wpList_append_fits _ rfl (.tmp 65) (.tmp 68) 57 rfl 0 5 i0 1 Tryz.underlying57 hi hz1 q m 256 _ rfl (H3.out.alloc _) ⟨w1.heap.size, 0, none⟩ 1 1 [.int .u8 (c : Int)] rfl rfl (cell_one_new _ _ _) (ints_oneCell .u8 [(c : Int)]) (by omega) ?_; intro w4 hown4 hgrow4)
          go_roundw
          case rel =>
            rw [HCELL.out, ← ub_succ] at hown4
            have hk4 : Kept (fun x => x = p) w w4 := grown_kept (H2.out.alloc _) hgrow4 (fun hlt' => by have := HQ.out; omega)
            exact ⟨k + 1, DP, 0, by omega, by rw [HCN.out], rfl, rfl, HDP2, Lib.hid (by rw [HCN.out, if_neg (by omega)]), rd_grown H1.out hgrow4 hq, by rw [HCN.out]; exact hown4, hk4⟩
          case measure =>
            have h1 := rdPos_at (rd_grown H1.out hgrow4 hq)
            have h2 := HPOS.out
            omega
    · have : k = s.size := by omega
      subst this
      have hdg : DG = 0 := by rw [HDG.out, if_neg (by omega)]
      subst hdg
      generalize hm : cnt pt s.size = m at *
      have HM := Lib.hid hm
      clear hm
      go_wp2_with fail
      have hHE := HE.out.kept HKP.out (Ne.symm hp3)
      refine (ReadRune_eof p s a wr HRD.out hHE (by omega)).mono ?_
      rintro e w1 ⟨rfl, h1, h2⟩
      have c3 : w1.cell? ⟨3, 0, none⟩ = some (.iface 257 (.pointer (some a))) := hHE.kept h2 (Ne.symm hp3)
      have H1 := Lib.hid h1
      have H2 := Lib.hid (HKP.out.same h2)
      have H3 := Lib.hid (row_kept HROW2.out h2 hq)
      clear h1 h2 hHE
      have hzp : z ≠ p := by obtain ⟨v, h1, _⟩ := HZ.out; obtain ⟨j, h2⟩ := HRD0.out; exact rd_ne_int (a := Value.nilIface) h1 ⟨j, h2⟩
      have hz3 : z ≠ 3 := int_ne3 HZ.out HE.out
      have hqz : ¬ (q = z) := by have := IntAt.lt HZ.out; have := HQ.out; omega
      have HZ1 : Hid (DecAt w1 z nz sz bz) := IntAt.kept HZ.out H2.out hzp (fun k hk e => by subst e; exact hbp hk)
      by_cases hpt : pt < s.size
      · have hdp : DP = (pt : Int) := by rw [HDP.out, if_pos hpt]
        have hmp : pt ≤ m := by rw [← HM.out]; unfold cnt; rw [if_neg (by omega)]; omega
        have hm2 : m ≤ 200 := by omega
        subst hdp
        have hsc : sc = (m : Int) - (pt : Int) := by rw [HSC.out, if_pos hpt]
        subst hsc
        go_wp2_with fail
        refine (Dec_SetScale z nz sz ((m : Int) - (pt : Int)) bz w1 HZ1.out).mono ?_
        rintro e w2 ⟨rfl, h1, h2⟩
        have HZ2 := Lib.hid h1
        have H4 := Lib.hid (row_kept H3.out h2 hqz)
        have HR2 : Hid (RdAt w2 p s s.size) := by
          obtain ⟨j, hj⟩ := H1.out
          exact ⟨j, by rw [h2.block p (heap_lt hj) (Ne.symm hzp)]; exact hj⟩
        have HK2 : Hid (Kept (fun k => k = z ∨ k = p ∨ bz = some k) w w2) := H2.out.trans h2 (fun _ _ h => Or.inr (Or.inl h)) (fun _ _ h => Or.inl h)
        have HE2 := Lib.hid ((HE.out.kept H2.out (Ne.symm hp3)).kept h2 (Ne.symm hz3))
        clear h1 h2 c3 HZ1 H3 H1
        have hcv := row_text H4.out (by have := HM.out; omega)
        have hcv2 : (convert 57 9 (.slice (some ⟨q, 0, none⟩) m 256)).run Tryz.prog w2.drew = .ok (.string (ustr u m)) w2.drew := row_text (w := w2.drew) H4.out (by have := HM.out; omega)
        have h130 := Int_SetString_digits z nz bz [.int .i32 ((m : Int) - (pt : Int))] 112 (ustr u m) a u w2.drew (by exact HZ2.out) (by rw [ustr_size]; have := HM.out; omega) (by rw [ustr_size]; omega) (by exact HE2.out) hb3 (fun k h => ustr_get u m HSP.out.low k h)
        rw [ustr_size] at h130
        have H130 := Lib.hid h130
        have HU60 : Hid (Calls Tryz.prog 60 #[.pointer (some ⟨z, 0, none⟩)] w2.drew fun e w' => e = .returned (.pointer (some ⟨z, 0, none⟩)) ∧ w2.drew = w') := Dec_UnscaledBig z nz ((m : Int) - (pt : Int)) bz w2.drew (by exact HZ2.out)
        have HFIN : Hid (∀ w9 b', IntAt w9 z (dval u m : Nat) b' [.int .i32 ((m : Int) - (pt : Int))] 112 → Own w2.drew bz b' → Kept (fun k => k = z ∨ bz = some k) w2.drew w9 → DscanRes w z p s bz (n : Nat) ((m : Int) - (pt : Int)) (.returned (.tuple #[.pointer (some ⟨z, 0, none⟩), .nilIface])) w9) := by
          intro w9 b' h1 h2 h3
          refine ⟨rfl, b', by rw [HN.out]; exact h1, own_trans (Or.inl rfl) h2 HK2.out.size, HK2.out.trans h3.undrew (fun _ _ h => h) (fun _ _ h => by rcases h with h | h; exact Or.inl h; exact Or.inr (Or.inr h)), ?_⟩
          obtain ⟨j, hj⟩ := HR2.out
          exact ⟨j, by rw [h3.undrew.block p (heap_lt hj) (by intro h; rcases h with h | h; exact hzp h.symm; exact hbp h)]; exact hj⟩
        clear h130
        go_wp2_with fail
        go_region_with (first | (go_at_call 60; refine HU60.out.mono ?_; rintro e w9 ⟨rfl, rfl⟩) | (go_at_call 130; refine H130.out.mono ?_; rintro e w9 ⟨rfl, b', h1, h2, h3⟩; have HF := Lib.hid (HFIN.out w9 b' h1 h2 h3); clear h1 h2 h3))
        all_goals
          go_wp2_with fail
          rw [Exit.noGoto_ret]
          go_ret2
          exact HF.out
      · have hdp : DP = -1 := by rw [HDP.out, if_neg (by omega)]
        subst hdp
        have hsc : sc = 0 := by rw [HSC.out, if_neg hpt]
        subst hsc
        go_wp2_with fail
        refine (Dec_SetScale z nz sz 0 bz w1 HZ1.out).mono ?_
        rintro e w2 ⟨rfl, h1, h2⟩
        have HZ2 := Lib.hid h1
        have H4 := Lib.hid (row_kept H3.out h2 hqz)
        have HR2 : Hid (RdAt w2 p s s.size) := by
          obtain ⟨j, hj⟩ := H1.out
          exact ⟨j, by rw [h2.block p (heap_lt hj) (Ne.symm hzp)]; exact hj⟩
        have HK2 : Hid (Kept (fun k => k = z ∨ k = p ∨ bz = some k) w w2) := H2.out.trans h2 (fun _ _ h => Or.inr (Or.inl h)) (fun _ _ h => Or.inl h)
        have HE2 := Lib.hid ((HE.out.kept H2.out (Ne.symm hp3)).kept h2 (Ne.symm hz3))
        clear h1 h2 c3 HZ1 H3 H1
        have hcv := row_text H4.out (by have := HM.out; omega)
        have hcv2 : (convert 57 9 (.slice (some ⟨q, 0, none⟩) m 256)).run Tryz.prog w2.drew = .ok (.string (ustr u m)) w2.drew := row_text (w := w2.drew) H4.out (by have := HM.out; omega)
        have h130 := Int_SetString_digits z nz bz [.int .i32 0] 112 (ustr u m) a u w2.drew (by exact HZ2.out) (by rw [ustr_size]; have := HM.out; omega) (by rw [ustr_size]; omega) (by exact HE2.out) hb3 (fun k h => ustr_get u m HSP.out.low k h)
        rw [ustr_size] at h130
        have H130 := Lib.hid h130
        have HU60 : Hid (Calls Tryz.prog 60 #[.pointer (some ⟨z, 0, none⟩)] w2.drew fun e w' => e = .returned (.pointer (some ⟨z, 0, none⟩)) ∧ w2.drew = w') := Dec_UnscaledBig z nz 0 bz w2.drew (by exact HZ2.out)
        have HFIN : Hid (∀ w9 b', IntAt w9 z (dval u m : Nat) b' [.int .i32 0] 112 → Own w2.drew bz b' → Kept (fun k => k = z ∨ bz = some k) w2.drew w9 → DscanRes w z p s bz (n : Nat) 0 (.returned (.tuple #[.pointer (some ⟨z, 0, none⟩), .nilIface])) w9) := by
          intro w9 b' h1 h2 h3
          refine ⟨rfl, b', by rw [HN.out]; exact h1, own_trans (Or.inl rfl) h2 HK2.out.size, HK2.out.trans h3.undrew (fun _ _ h => h) (fun _ _ h => by rcases h with h | h; exact Or.inl h; exact Or.inr (Or.inr h)), ?_⟩
          obtain ⟨j, hj⟩ := HR2.out
          exact ⟨j, by rw [h3.undrew.block p (heap_lt hj) (by intro h; rcases h with h | h; exact hzp h.symm; exact hbp h)]; exact hj⟩
        clear h130
        go_wp2_with fail
        go_region_with (first | (go_at_call 60; refine HU60.out.mono ?_; rintro e w9 ⟨rfl, rfl⟩) | (go_at_call 130; refine H130.out.mono ?_; rintro e w9 ⟨rfl, b', h1, h2, h3⟩; have HF := Lib.hid (HFIN.out w9 b' h1 h2 h3); clear h1 h2 h3))
        all_goals
          go_wp2_with fail
          rw [Exit.noGoto_ret]
          go_ret2
          exact HF.out
end Go.Proofs.YtjebnpkebccffaaGreatDoor
namespace Go.Proofs.YtjebnpkebccffaaGreatDoor
open Go.RowKit
def DstrRes (w : World) (z : Nat) (bz : Option Nat) (n sc : Int) (e : Ending) (w' : World) : Prop :=
  e = .returned (.tuple #[.pointer (some ⟨z, 0, none⟩), .bool true]) ∧ ∃ b', DecAt w' z n sc b' ∧ Own w bz b' ∧ Kept (fun k => k = z ∨ bz = some k) w w'
set_option maxHeartbeats 1000000 in
theorem Dec_SetString_digits (z pt : Nat) (nz sz : Int) (bz : Option Nat) (s : ByteArray) (u : Nat → Nat) (a : Addr) (w : World) (hz : DecAt w z nz sz bz) (hs0 : 1 ≤ cnt pt s.size) (hs : s.size ≤ 200) (he : Eof w a) (hsp : Spells s pt u) (hb3 : bz ≠ some 3) (n : Nat) (hn : n = dval u (cnt pt s.size)) (sc : Int) (hsc : sc = if pt < s.size then (cnt pt s.size : Int) - pt else 0) :
    Calls Tryz.prog 54 #[.pointer (some ⟨z, 0, none⟩), .string s] w (DstrRes w z bz n sc) := by
  have HZ := Lib.hid hz
  have HE := Lib.hid he
  have HSP := Lib.hid hsp
  have HN := Lib.hid hn
  have HSC := Lib.hid hsc
  have q2 := fun w => e_nn w
  have q4 := fun a w => e_xxn a w
  clear hz he hsp hn hsc
  go_enter Tryz.func54, Tryz.ntmps54
  go_wp2_with fail
  refine (NewReader_any s _).mono ?_
  rintro e w1 ⟨rfl, hw1⟩
  have hk : Kept (fun _ => False) w w1 := by rw [hw1]; exact (Kept.refl _ _).alloc _
  have hr : RdAt w1 w.heap.size s 0 := ⟨-1, by rw [hw1]; exact heap_alloc_new _ _⟩
  have HK := Lib.hid hk
  have HR := Lib.hid hr
  clear hw1 hk hr
  go_wp2_with fail
  have hbn : bz ≠ some w.heap.size := by intro e; have := IntAt.lts HZ.out _ e; omega
  have hzl := IntAt.lt HZ.out
  have he1 := HE.out.kept HK.out (fun f => f)
  refine (Dec_scan_digits z w.heap.size pt nz sz bz s u a w1 (IntAt.old HZ.out HK.out) HR.out hs0 hs he1 HSP.out hbn hb3 n HN.out sc HSC.out).mono ?_
  rintro e w2 ⟨rfl, b', h1, h2, h3, h4⟩
  have hp3 := rd_ne3 h4 (he1.kept h3 (by
    rintro (h | h | h)
    · exact int_ne3 HZ.out HE.out h.symm
    · exact rd_ne3 HR.out he1 h.symm
    · exact hb3 h))
  have he2 : Eof w2 a := he1.kept h3 (by
    rintro (h | h | h)
    · exact int_ne3 HZ.out HE.out h.symm
    · exact hp3 h.symm
    · exact hb3 h)
  have hbn' : b' ≠ some w.heap.size := own_ne h2 (by have := HR.out; obtain ⟨j, hj⟩ := this; exact heap_lt hj) hbn
  have H1 := Lib.hid h1
  have H2 := Lib.hid h2
  have H3 := Lib.hid h3
  have H4 := Lib.hid h4
  have HE2 := Lib.hid he2
  clear h1 h2 h3 h4 he1 he2
  go_wp2_with fail
  refine (ReadRune_eof w.heap.size s a w2 H4.out HE2.out (by omega)).mono ?_
  rintro e w3 ⟨rfl, h1, h2⟩
  have c3 : w3.cell? ⟨3, 0, none⟩ = some (.iface 257 (.pointer (some a))) := HE2.out.kept h2 (Ne.symm hp3)
  have HF : Hid (DstrRes w z bz n sc (.returned (.tuple #[.pointer (some ⟨z, 0, none⟩), .bool true])) w3) :=
    ⟨rfl, b', IntAt.kept H1.out h2 (by omega) (fun k hk' e => by subst e; exact hbn' hk'), own_trans (Or.inl rfl) H2.out HK.out.size, (HK.out.trans H3.out (U := fun k => k = z ∨ k = w.heap.size ∨ bz = some k) (fun _ _ f => f.elim) (fun _ _ h => h)).trans h2 (fun i hi h => by
      rcases h with h | h | h
      · exact Or.inl h
      · omega
      · exact Or.inr h) (fun i hi h => by omega)⟩
  clear h1 h2
  go_wp2_with fail
  go_ret2
  exact HF.out
end Go.Proofs.YtjebnpkebccffaaGreatDoor
