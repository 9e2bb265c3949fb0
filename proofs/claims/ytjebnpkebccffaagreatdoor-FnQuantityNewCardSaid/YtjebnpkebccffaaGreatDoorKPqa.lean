import Derived.Test.YtjebnpkebccffaaGreatDoorKIsw
import Derived.Test.YtjebnpkebccffaaGreatDoorKResc
import Derived.Test.YtjebnpkebccffaaGreatDoorKDscan
set_option linter.unusedSimpArgs false
set_option linter.unusedVariables false
set_option linter.unusedSectionVars false
namespace Go.Proofs.YtjebnpkebccffaaGreatDoor
open Go.RowKit
def aw : ByteArray := ⟨#[49, 46, 53, 71, 105]⟩
theorem pq_aw : pq aw = ⟨true, ⟨#[49, 46, 53]⟩, ⟨#[49]⟩, ⟨#[53]⟩, ⟨#[71, 105]⟩, true⟩ := by kernel_rfl
def uaw : Nat → Nat := fun j => if j = 0 then 1 else 5
theorem spells_aw : Spells ⟨#[49, 46, 53]⟩ 1 uaw where
  dig k h hk := by
    have h' : k < 3 := h
    match k, h' with
    | 0, _ => rfl
    | 1, _ => exact absurd rfl hk
    | 2, _ => rfl
  pnt h := rfl
  low j := by unfold uaw; split <;> omega
theorem kept_own {w a b : World} {d : Nat} {bz : Option Nat} (h : Kept (fun _ => False) w a) (k : Kept (fun k => k = d ∨ bz = some k) a b) (hd : w.heap.size ≤ d) (hb : ∀ k, bz = some k → w.heap.size ≤ k) : Kept (fun _ => False) w b :=
  h.trans k (fun _ _ f => f) (fun i hi h => by
    rcases h with h | h
    · omega
    · have := hb i h; omega)
theorem own_fresh {w a : World} {bz b' : Option Nat} (hs : w.heap.size ≤ a.heap.size) (hb : ∀ k, bz = some k → w.heap.size ≤ k) (ho : Own a bz b') : ∀ k, b' = some k → w.heap.size ≤ k := by
  intro k hk
  rcases ho with rfl | ⟨j, rfl, hj⟩
  · exact hb k hk
  · injection hk with hk; omega
theorem gi_bin (d : Nat) (w : World) (h : Suffixer w d) : Calls Tryz.prog 331 #[.agg #[.pointer (some ⟨d, 0, none⟩)], .string ⟨#[71, 105]⟩] w (IntpRes w 2 30 fBin true) :=
  fast_slow d _ w 2 30 fBin true (fun w1 hk => interpret_bin d _ w1 (h.kept hk) 2 30 2 lk_Gi.1 lk_Gi.2) (by rw [ByteArray.toList_eq]; rfl) (by rw [ByteArray.toList_eq]; rfl) (by rw [ByteArray.toList_eq]; rfl) (by rw [ByteArray.toList_eq]; rfl) (by rw [ByteArray.toList_eq]; rfl) (by rw [ByteArray.toList_eq]; rfl) (by rw [ByteArray.toList_eq]; rfl)
theorem aw_ne : (aw.toList == [48]) = false := by rw [ByteArray.toList_eq]; rfl
theorem fld63 (p : Option Addr) (w : World) : (Instr.field 63 (.agg #[.pointer p]) 0).run Tryz.prog w = .ok (.pointer p) w := by kernel_rfl
def AwRes (w : World) (e : Ending) (w' : World) : Prop :=
  ∃ d b, e = .returned (.tuple #[.agg #[.int .i64 0, .int .i32 0, .pointer (some ⟨d, 0, none⟩), .string ⟨#[]⟩, fBin], .nilIface]) ∧ w.heap.size ≤ d ∧ DecAt w' d 1610612736000000000 9 b ∧ Kept (fun _ => False) w w' ∧ (∀ k, b = some k → w.heap.size ≤ k)
set_option maxRecDepth 100000 in
set_option maxHeartbeats 4000000 in
theorem ParseQ_awake (w : World) (ev : Value) (a : Addr) (hev0 : w.cell? ⟨0, 0, none⟩ = some ev) (heof : Eof w a) : Calls Tryz.prog 27 #[.string aw] w (AwRes w) := by
  have k0 : Kept (fun _ => False) w (w.alloc (.cells zQ 66)) := (Kept.refl _ _).alloc _
  have h0 := heap_alloc_new w (.cells zQ 66)
  have HB := Lib.hid h0
  have hp := parse_any aw (by decide) (w.alloc (.cells zQ 66)) _ (cell_same k0 hev0)
  rw [pq_aw] at hp
  have HP := Lib.hid hp
  have K0 := Lib.hid k0
  have HE := Lib.hid heof
  have q1 := fun w => e_nn0 w
  have q2 := fun w => build66 w
  have q3 := fun d w => m_intp d w
  have hz : ((aw.size : Int) == 0) = false := rfl
  have q4 := fun p w => fld63 p w
  have hz2 := aw_ne
  clear hp k0 hev0 h0 heof
  go_enter Tryz.func27, Tryz.ntmps27
  go_wp2_with fail
  refine HP.out.mono ?_
  rintro e w1 ⟨rfl, hk⟩
  have K1 := Lib.hid (K0.out.same hk)
  have B1 := Lib.hid (hk.at HB.out (fun f => f))
  clear hk HP HB
  simp only [pqV]
  go_wp2_with fail
  refine (newSuffixer_any w1).mono ?_
  rintro e w2 ⟨dd, rfl, hdd, hsf, hk⟩
  have K2 := Lib.hid (K1.out.same hk)
  have B2 := Lib.hid (hk.at B1.out (fun f => f))
  have HC := Lib.hid (gi_bin dd w2 hsf)
  clear hk hsf B1 K1
  go_wp2_with fail
  refine HC.out.mono ?_
  rintro e w3 ⟨rfl, hk⟩
  have K3 := Lib.hid (K2.out.same hk)
  have B3 := Lib.hid (hk.at B2.out (fun f => f))
  have k4 : Kept (fun _ => False) w (w3.alloc zDec) := K3.out.alloc _
  have Z4 := Lib.hid (zDec_at w3)
  have hdq : w.heap.size < w3.heap.size := heap_lt B3.out
  have B4 := Lib.hid (((Kept.refl (fun _ => False) w3).alloc zDec).at B3.out (fun f => f))
  have K4 := Lib.hid k4
  clear hk B2 k4 B3 HC
  simp only [fBin]
  simp only [zDec] at K4 Z4 B4
  go_wp2_with fail
  generalize hw4 : w3.alloc (.cells #[.bool false, .slice none 0 0, .int .i32 0] 112) = w4 at *
  clear hw4
  have hw4s := heap_lt B4.out
  generalize hd : w3.heap.size = d at *
  clear hd
  have he4 : Eof w4 a := cell_same K4.out HE.out
  refine (Dec_SetString_digits d 1 0 0 none ⟨#[49, 46, 53]⟩ uaw a w4 Z4.out (by decide) (by decide) he4 spells_aw (by simp) 15 (by decide) 1 (by decide)).mono ?_
  rintro e w5 ⟨rfl, b5, hd5, ho5, hk5⟩
  have K5 := Lib.hid (kept_own K4.out hk5 (by omega) (by simp))
  have F5 := Lib.hid (own_fresh K4.out.size (by simp) ho5)
  have hq5 : ∀ k, b5 = some k → w4.heap.size ≤ k := own_fresh (Nat.le_refl _) (by simp) ho5
  have D5 := Lib.hid hd5
  have B5 := Lib.hid (hk5.at B4.out (by simp; omega))
  clear hk5 ho5 hd5 B4 K4 Z4 he4 K3 K2
  go_wp2_with fail
  refine (NewInt_nat 1 (by omega) w5).mono ?_
  rintro e w6 ⟨x1, c1, rfl, hx1, hi1, hk, hf1⟩
  have K6 := Lib.hid (kept_new' K5.out hk)
  have D6 := Lib.hid (IntAt.old D5.out hk)
  have B6 := Lib.hid (hk.at B5.out (fun f => f))
  have X1 := Lib.hid hi1
  have X1l := Lib.hid hi1
  have hd5 := IntAt.lt D5.out
  have s5 := K5.out.size
  have F1 := Lib.hid hf1
  have hs65 := hk.size
  clear hk hi1 hf1 B5
  go_wp2_with fail
  refine (NewInt_nat 1 (by omega) w6).mono ?_
  rintro e w7 ⟨x2, c2, rfl, hx2, hi2, hk, hf2⟩
  have K7 := Lib.hid (kept_new' K6.out hk)
  have D7 := Lib.hid (IntAt.old D6.out hk)
  have Y1 := Lib.hid (IntAt.old X1.out hk)
  have B7 := Lib.hid (hk.at B6.out (fun f => f))
  have X2 := Lib.hid hi2
  have hx1l := IntAt.lt X1.out
  clear hk hi2 B6 D6 K5 K6 X1
  have hx12 : x1 ≠ x2 := by omega
  have hc12 : c1 ≠ some x2 := by
    intro h
    obtain ⟨v, h1, h2, h3⟩ := Y1.out
    rw [h] at h2
    have := NatAt.lt h2
    have hb1 := F1.out x2 h
    have : x2 < w6.heap.size := by
      obtain ⟨v', g1, g2, g3⟩ := X1l.out
      rw [h] at g2
      exact NatAt.lt g2
    omega
  go_wp2_with fail
  refine (Int_Lsh_one x1 x2 30 1 c1 c2 [] [] 109 109 w7 Y1.out X2.out hc12 hx12 (by omega) (by omega)).mono ?_
  rintro e w8 ⟨rfl, c3, hi3, hk, ho3⟩
  have hnd : ¬ (d = x1 ∨ c1 = some d) := by
    intro h
    rcases h with h | h
    · omega
    · have := F1.out d h; omega
  have K8 := Lib.hid (kept_own K7.out hk (by omega) (fun k h => by have := F1.out k h; omega))
  have D8 := Lib.hid (IntAt.kept D7.out hk hnd (fun k h1 h2 => by
    rcases h2 with h2 | h2
    · have := IntAt.lts D5.out k h1; omega
    · have := IntAt.lts D5.out k h1; have := F1.out k h2; omega))
  have B8 := Lib.hid (hk.at B7.out (fun h => by
    rcases h with h | h
    · omega
    · have := F1.out _ h; omega))
  have I8 := Lib.hid hi3
  have O3 := Lib.hid ho3
  clear hk hi3 ho3 B7 D7 K7 Y1 X2 hnd
  go_wp2_with fail
  refine (Dec_UnscaledBig d 15 1 b5 w8 D8.out).mono ?_
  rintro e w8' ⟨rfl, rfl⟩
  go_wp2_with fail
  have hdx1 : d ≠ x1 := by omega
  have hb5 : b5 ≠ some x1 := by intro h; have := IntAt.lts D5.out x1 h; omega
  refine (Int_Mul_word d d x1 15 15 ((2 ^ 30 : Nat) : Int) b5 b5 c3 [.int .i32 1] [.int .i32 1] [] 112 112 109 w8 D8.out D8.out I8.out hdx1 (Or.inl rfl) hdx1 hb5 (by decide) (by decide) (Sm.one (by decide))).mono ?_
  rintro e w9 ⟨rfl, b9, hd9, hk, ho9⟩
  have hs8 := K8.out.size
  have K9 := Lib.hid (kept_own K8.out hk (by omega) F5.out)
  have F9 := Lib.hid (own_fresh hs8 F5.out ho9)
  have hq : w.heap.size ≠ d := by omega
  have B9 := Lib.hid (hk.at B8.out (fun h => by
    rcases h with h | h
    · omega
    · have h1 := F5.out _ h
      obtain ⟨v, g1, g2, g3⟩ := D5.out
      have g4 := hq5 _ h
      omega))
  have D9 : Hid (DecAt w9 d 16106127360 1 b9) := Lib.hid hd9
  have hl8 := IntAt.lt D8.out
  have hq9 : ¬ (b9 = some w.heap.size) := by
    intro h
    rcases ho9 with h' | ⟨j, h1, h2⟩
    · have := hq5 _ (h' ▸ h); omega
    · rw [h1] at h; injection h with h; omega
  clear hk hd9 ho9 D8 B8 I8 K8 O3 hs8
  go_wp2_with fail
  refine (Dec_SetUnscaledBig_self d 16106127360 1 b9 w9 D9.out).mono ?_
  rintro e w9' ⟨rfl, rfl⟩
  go_wp2_with fail
  refine (Dec_Sign d 16106127360 1 b9 w9 D9.out).mono ?_
  rintro e w9' ⟨rfl, rfl⟩
  have hsg : sgn 16106127360 = 1 := by decide
  rw [hsg]
  go_wp2_with fail
  refine (Dec_Unscaled_pos d 16106127360 1 b9 w9 D9.out (by decide)).mono ?_
  rintro e w10 ⟨rfl, hk⟩
  have K10 := Lib.hid (kept_new' K9.out hk)
  have D10 := Lib.hid (IntAt.old D9.out hk)
  have B10 := Lib.hid (hk.at B9.out (fun f => f))
  clear hk K9 D9 B9
  go_wp2_with fail
  refine (infScale_any (-9) w10 (by omega)).mono ?_
  rintro e w10' ⟨rfl, rfl⟩
  go_wp2_with fail
  refine (RoundUp_any w10).mono ?_
  rintro e w10' ⟨rfl, rfl⟩
  go_wp2_with fail
  refine (Dec_Round_of d d 16106127360 1 16106127360 1 1610612736000000000 1 9 b9 b9 w10 D10.out D10.out (fun w' y c hx hy => by
    have := quoOK_up (k := 8) (M := 100000000) (s := 9) (by decide) (by omega) (by omega) (by omega) hx hy (by omega) (by decide) (Sm.one (by decide))
    exact this) (Sm.one (by decide))).mono ?_
  rintro e w11 ⟨rfl, b11, hd11, hk, ho11⟩
  have K11 := Lib.hid (kept_own K10.out hk (by omega) F9.out)
  have F11 := Lib.hid (own_fresh K10.out.size F9.out ho11)
  have hl10 := K10.out.size
  have B11 := Lib.hid (hk.at B10.out (fun h => by
    rcases h with h | h
    · omega
    · exact hq9 h))
  have D11 := Lib.hid hd11
  have hl10' := IntAt.lt D10.out
  have hq11' : ¬ (b11 = some w.heap.size) := by
    intro h
    rcases ho11 with h' | ⟨j, h1, h2⟩
    · exact hq9 (h' ▸ h)
    · rw [h1] at h; injection h with h; omega
  clear hk hd11 ho11 D10 B10 K10
  go_wp2_with fail
  refine (maxAllowed_any w11).mono ?_
  rintro e w12 ⟨p, bp, rfl, hp, hdp, hk, hfp⟩
  have K12 := Lib.hid (kept_new' K11.out hk)
  have D12 := Lib.hid (IntAt.old D11.out hk)
  have P12 := Lib.hid hdp
  have B12 := Lib.hid (hk.at B11.out (fun f => f))
  clear hk hdp K11 D11 B11
  go_wp2_with fail
  refine (Dec_Cmp_gt d p 9 1000000000 (by decide) 1610612736000000000 9223372036854775807 9 0 b11 bp w12 D12.out P12.out (by omega) (by omega) (by omega) (by omega) (by omega) (Nat.le_trans (dig_len_le (k := 1) (by decide)) (by omega))).mono ?_
  have hc1 : cmpZ 1610612736000000000 (9223372036854775807 * ((1000000000 : Nat) : Int)) = -1 := by decide
  rw [hc1]
  rintro e w13 ⟨rfl, hk⟩
  have K13 := Lib.hid (kept_new' K12.out hk)
  have D13 := Lib.hid (IntAt.old D12.out hk)
  have B13 := Lib.hid (hk.at B12.out (fun f => f))
  clear hk K12 D12 B12 P12 hc1
  go_wp2_with fail
  refine (NewDec_any 1 0 w13 (by decide)).mono ?_
  rintro e w14 ⟨y, by_, rfl, hy, hdy, hk, hfy⟩
  have K14 := Lib.hid (kept_new' K13.out hk)
  have D14 := Lib.hid (IntAt.old D13.out hk)
  have Y14 := Lib.hid hdy
  have B14 := Lib.hid (hk.at B13.out (fun f => f))
  clear hk hdy K13 D13 B13
  go_wp2_with fail
  refine (Dec_Cmp_gt d y 9 1000000000 (by decide) 1610612736000000000 1 9 0 b11 by_ w14 D14.out Y14.out (by omega) (by omega) (by omega) (by omega) (by omega) (Nat.le_trans (dig_len_le (k := 1) (by decide)) (by omega))).mono ?_
  have hc2 : cmpZ 1610612736000000000 (1 * ((1000000000 : Nat) : Int)) = 1 := by decide
  rw [hc2]
  rintro e w15 ⟨rfl, hk⟩
  have K15 := Lib.hid (kept_new' K14.out hk)
  have D15 := Lib.hid (IntAt.old D14.out hk)
  have b15 := hk.at B14.out (fun f => f)
  obtain ⟨c0, c1', c2', c3', c4'⟩ := cells5 b15
  have f0 := frozen_of b15 0
  have f1 := frozen_of b15 1
  have f2 := frozen_of b15 2
  have f3 := frozen_of b15 3
  have f4 := frozen_of b15 4
  have g := store5 b15 (.int .i64 0) (.int .i32 0) (.pointer (some ⟨d, 0, none⟩)) (.string ⟨#[]⟩) (.string ⟨#[66, 105, 110, 97, 114, 121, 83, 73]⟩)
  generalize hW : (((((w15.setCell ⟨w.heap.size, 0, none⟩ (.int .i64 0)).setCell ⟨w.heap.size, 1, none⟩ (.int .i32 0)).setCell ⟨w.heap.size, 2, none⟩ (.pointer (some ⟨d, 0, none⟩))).setCell ⟨w.heap.size, 3, none⟩ (.string ⟨#[]⟩)).setCell ⟨w.heap.size, 4, none⟩ (.string ⟨#[66, 105, 110, 97, 114, 121, 83, 73]⟩)) = W at g
  have G1 := Lib.hid g.1
  have G2 := Lib.hid g.2
  clear hk K14 D14 B14 Y14 hc2 g b15
  go_wp2_with fail
  obtain ⟨d0, d1, d2, d3, d4⟩ := cells5 G1.out
  have hq11 : ∀ k, b11 = some k → ¬ (k = w.heap.size) := by
    intro k hk e
    subst e
    exact hq11' hk
  have hds : d ≠ w.heap.size := by omega
  refine bodyPost_ret (v := .tuple #[.agg #[.int .i64 0, .int .i32 0, .pointer (some ⟨d, 0, none⟩), .string ⟨#[]⟩, fBin], .nilIface]) ?_ rfl ⟨d, b11, rfl, by omega, IntAt.kept D15.out G2.out hds hq11, K15.out.trans G2.out (fun _ _ f => f) (fun i hi h => by omega), F11.out⟩
  simp [results, Tryz.f27, loadVar, go_sem, d0, d1, d2, d3, d4, fBin]
end Go.Proofs.YtjebnpkebccffaaGreatDoor
namespace Go.Proofs.YtjebnpkebccffaaGreatDoor
open Go.RowKit
theorem m_b1024 (a : Option Addr) (w : World) : (Go.method 525 63 (.agg #[.pointer a]) "AsCanonicalBase1024Bytes").run Tryz.prog w = .ok (319, .agg #[.pointer a]) w := by kernel_rfl
set_option maxRecDepth 100000 in
set_option maxHeartbeats 1000000 in
theorem AsScale_nine (p d : Nat) (s fmt : ByteArray) (q : Nat) (b : Option Nat) (w : World) (h : QtyAt w p d s fmt) (hd : DecAt w d ((q * 1000000000 : Nat) : Int) 9 b) (hq : q * 1000000000 < B64) :
    Calls Tryz.prog 113 #[.pointer (some ⟨p, 0, none⟩), .int .i32 0] w fun e w' => ∃ t c, e = .returned (.tuple #[.iface 63 (.agg #[.pointer (some ⟨t, 0, none⟩)]), .bool true]) ∧ DecAt w' t (q : Int) 0 c ∧ Kept (fun _ => False) w w' := by
  obtain ⟨c1, c2⟩ := qty_cells h
  have n1 := fun a w => d_neq a w
  have H := Lib.hid (infAsScale_nine d q b w hd hq)
  clear h hd
  go_enter Tryz.func113, Tryz.ntmps113
  go_wp2_with fail
  refine H.out.mono ?_
  rintro e w1 ⟨t, c, rfl, h1, h2, h3, h4⟩
  go_wp2_with fail
  go_ret2
  exact ⟨t, c, rfl, h2, h3⟩
theorem aw_t {t : Nat} (h1 : 1024 ^ t ∣ 1610612736) (h2 : 1610612736 / 1024 ^ t % 1024 ≠ 0) : t = 2 := by
  match t with
  | 0 => exact absurd (by decide) h2
  | 1 => exact absurd (by decide) h2
  | 2 => rfl
  | k + 3 =>
    have h3 : 1024 ^ 3 ∣ 1610612736 := Nat.dvd_trans (Nat.pow_dvd_pow 1024 (by omega)) h1
    exact absurd h3 (by decide)
theorem bytes_of {w : World} {g cap : Nat} {cs : Array Value} {fr : Nat × Nat} (l : List Nat) (t : ByteArray) (hh : w.heap[g]? = some (.cells cs 5 fr)) (hb : HasB cs 0 l) (hl : l.length = t.size) (ht : ∀ j (h : j < t.size), l.getD j 0 = t[j].toNat) : BytesAt w (.slice (some ⟨g, 0, none⟩) l.length cap) t := by
  refine ⟨g, cap, cs, fr, by rw [hl], hh, fun j hj => ?_⟩
  have := hb j (by omega)
  rw [Nat.zero_add] at this
  rw [this, ht j hj]
set_option maxRecDepth 100000 in
set_option maxHeartbeats 2000000 in
theorem Canon_aw (p d : Nat) (b : Option Nat) (w : World) (h : QtyAt w p d ⟨#[]⟩ ⟨#[66, 105, 110, 97, 114, 121, 83, 73]⟩) (hd : DecAt w d 1610612736000000000 9 b) (hleaf : Leaf w) :
    Calls Tryz.prog 76 #[.pointer (some ⟨p, 0, none⟩), .slice none 0 0] w fun e w' => ∃ v1 v2, e = .returned (.tuple #[v1, v2]) ∧ BytesAt w' v1 ⟨#[49, 53, 51, 54]⟩ ∧ BytesAt w' v2 ⟨#[77, 105]⟩ ∧ Kept (fun _ => False) w w' := by
  obtain ⟨c1, c2⟩ := qty_cells h
  have HQ := Lib.hid h
  have HD := Lib.hid hd
  have HL := Lib.hid hleaf
  have q1 := fun a w => m_b1024 a w
  have q2 := fun d w => m_cons d w
  clear h hd
  go_enter Tryz.func76, Tryz.ntmps76
  go_wp2_with fail
  refine (IsZero_any p d _ _ 1610612736000000000 9 b w HQ.out HD.out (by omega)).mono ?_
  rintro e w1 ⟨rfl, rfl⟩
  go_wp2_with fail
  refine (CmpInt64_nine p d _ _ 1610612736000000000 (-1024) b w HQ.out HD.out (by decide)).mono ?_
  have hc1 : cmpZ 1610612736000000000 (-1024 * 1000000000) = 1 := by decide
  rw [hc1]
  rintro e w1 ⟨rfl, hk⟩
  have K1 := Lib.hid hk
  have Q1 : Hid (QtyAt w1 p d _ _) := Lib.hid (hk.at HQ.out (fun f => f))
  have D1 := Lib.hid (IntAt.old HD.out hk)
  clear hk hc1
  go_wp2_with fail
  refine (CmpInt64_nine p d _ _ 1610612736000000000 1024 b w1 Q1.out D1.out (by decide)).mono ?_
  have hc1 : cmpZ 1610612736000000000 (1024 * 1000000000) = 1 := by decide
  rw [hc1]
  rintro e w2 ⟨rfl, hk⟩
  have K2 := Lib.hid (K1.out.same hk)
  have Q2 : Hid (QtyAt w2 p d _ _) := Lib.hid (hk.at Q1.out (fun f => f))
  have D2 := Lib.hid (IntAt.old D1.out hk)
  clear hk hc1
  go_wp2_with fail
  refine (AsScale_nine p d _ _ 1610612736 b w2 Q2.out D2.out (by decide)).mono ?_
  rintro e w3 ⟨t, c, rfl, ht, hk⟩
  have K3 := Lib.hid (K2.out.same hk)
  have T3 := Lib.hid ht
  clear hk ht
  go_wp2_with fail
  have hl3 : Leaf w3 := HL.out.kept K3.out (fun f => f)
  refine (base1024 t 1610612736 c w3 T3.out (by decide) (by decide) hl3 (cell_lt hl3)).mono ?_
  rintro e w4 ⟨k, g, cap, cs, rfl, hdv, hm, hg, hb, hk⟩
  obtain rfl := aw_t hdv hm
  have hdc : decs (1610612736 / 1024 ^ 2) = [49, 53, 51, 54] := by
    rw [show 1610612736 / 1024 ^ 2 = 1536 by decide, decs_big (by omega), decs_big (n := 1536 / 10) (by omega), decs_big (n := 1536 / 10 / 10) (by omega), decs_small (by omega)]
    rfl
  rw [hdc] at hb ⊢
  have K4 := Lib.hid (K3.out.same hk)
  have B4 := Lib.hid (bytes_of (cap := cap) [49, 53, 51, 54] ⟨#[49, 53, 51, 54]⟩ hg hb rfl (fun j hj => by
    have h' : j < 4 := hj
    match j, h' with
    | 0, _ => rfl
    | 1, _ => rfl
    | 2, _ => rfl
    | 3, _ => rfl))
  clear hk hg hb hdc hdv hm
  go_wp2_with fail
  refine (newSuffixer_any w4).mono ?_
  rintro e w5 ⟨dd, rfl, hdd, hsf, hk⟩
  have K5 := Lib.hid (K4.out.same hk)
  have B5 := Lib.hid (B4.out.kept hk (fun _ _ _ _ f => f))
  have HC := Lib.hid (construct_bin dd 2 20 ⟨#[77, 105]⟩ w5 hsf lk_Mi)
  clear hk hsf
  simp only [fBin] at HC
  go_wp2_with fail
  refine HC.out.mono ?_
  rintro e w6 ⟨v, rfl, hv, hk⟩
  go_wp2_with fail
  go_ret2
  exact ⟨_, v, rfl, B5.out.kept hk (fun _ _ _ _ f => f), hv, K5.out.same hk⟩
end Go.Proofs.YtjebnpkebccffaaGreatDoor
namespace Go.Proofs.YtjebnpkebccffaaGreatDoor
open Go.RowKit
theorem conv_bytes {w : World} {v : Value} {t : ByteArray} (h : BytesAt w v t) : (convert 57 9 v).run Tryz.prog w = .ok (.string t) w := by
  obtain ⟨g, cap, cs, fr, rfl, h1, h2⟩ := h
  have hl : t.data.toList.length = t.size := by simp
  have := run_convert_bytes_back (P := Tryz.prog) w 57 9 5 ⟨g, 0, none⟩ cap t.data.toList Tryz.underlying57 Tryz.underlying5 Tryz.underlying9 (fun j hj => by
    have hj' : j < t.size := by omega
    have e := h2 j hj'
    have e2 : (⟨g, 0, none⟩ : Addr).add j = ⟨g, j, none⟩ := by simp [Addr.add] <;> omega
    rw [e2, cell_of h1, e]
    rfl)
  rw [hl] at this
  rw [this]
set_option maxRecDepth 100000 in
set_option maxHeartbeats 1000000 in
theorem canonical_aw (p d : Nat) (b : Option Nat) (w : World) (h : QtyAt w p d ⟨#[]⟩ ⟨#[66, 105, 110, 97, 114, 121, 83, 73]⟩) (hd : DecAt w d 1610612736000000000 9 b) (hleaf : Leaf w) :
    Calls Tryz.prog 39 #[.pointer (some ⟨p, 0, none⟩)] w fun e w' => e = .returned (.string ⟨#[49, 53, 51, 54, 77, 105]⟩) ∧ Kept (fun _ => False) w w' := by
  have H := Lib.hid (Canon_aw p d b w h hd hleaf)
  clear h hd hleaf
  go_enter Tryz.func39, Tryz.ntmps39
  go_wp2_with fail
  refine H.out.mono ?_
  rintro e w1 ⟨v1, v2, rfl, h1, h2, hk⟩
  have g1 := conv_bytes h1
  have g2 := conv_bytes h2
  have HK := Lib.hid hk
  clear h1 h2 hk
  go_wp2_with fail
  go_ret
  exact ⟨rfl, HK.out⟩
set_option maxRecDepth 100000 in
theorem formatOf_bin (w : World) : Calls Tryz.prog 47 #[.string ⟨#[66, 105, 110, 97, 114, 121, 83, 73]⟩] w fun e w' => e = .returned (.int .i64 1) ∧ w = w' := by
  go_enter Tryz.func47, Tryz.ntmps47
  go_wp2_with fail
  go_ret
  exact ⟨rfl, rfl⟩
set_option maxRecDepth 100000 in
set_option maxHeartbeats 1000000 in
theorem Text_aw (w : World) (ev : Value) (a : Addr) (hev0 : w.cell? ⟨0, 0, none⟩ = some ev) (heof : Eof w a) (hleaf : Leaf w) :
    Calls Tryz.prog 32 #[.string aw] w fun e w' => e = .returned (.tuple #[.string ⟨#[49, 53, 51, 54, 77, 105]⟩, .int .i64 1, .int .i64 0]) ∧ Kept (fun _ => False) w w' := by
  have H := Lib.hid (ParseQ_awake w ev a hev0 heof)
  have HL := Lib.hid hleaf
  have q1 := fun w => e_nn0 w
  clear hev0 heof hleaf
  go_enter Tryz.func32, Tryz.ntmps32
  go_wp2_with fail
  refine H.out.mono ?_
  rintro e w1 ⟨d, b, rfl, hd, hdd, hk, hf⟩
  have k2 : Kept (fun _ => False) w (w1.alloc (.cells #[.int .i64 0, .int .i32 0, .pointer (some ⟨d, 0, none⟩), .string ⟨#[]⟩, .string ⟨#[66, 105, 110, 97, 114, 121, 83, 73]⟩] 66)) := hk.alloc _
  have hq := heap_alloc_new w1 (.cells #[.int .i64 0, .int .i32 0, .pointer (some ⟨d, 0, none⟩), .string ⟨#[]⟩, .string ⟨#[66, 105, 110, 97, 114, 121, 83, 73]⟩] 66)
  have d2 := IntAt.old hdd ((Kept.refl (fun _ => False) w1).alloc (.cells #[.int .i64 0, .int .i32 0, .pointer (some ⟨d, 0, none⟩), .string ⟨#[]⟩, .string ⟨#[66, 105, 110, 97, 114, 121, 83, 73]⟩] 66))
  have K2 := Lib.hid k2
  have D2 := Lib.hid d2
  have Q2 := Lib.hid hq
  simp only [fBin]
  clear k2 d2 hq hk hdd hf H
  go_wp2_with fail
  generalize hp : w1.heap.size = p at *
  generalize hW : w1.alloc (.cells #[.int .i64 0, .int .i32 0, .pointer (some ⟨d, 0, none⟩), .string ⟨#[]⟩, .string ⟨#[66, 105, 110, 97, 114, 121, 83, 73]⟩] 66) = W at *
  clear hp hW
  have q0 : QtyAt W.drew p d ⟨#[]⟩ ⟨#[66, 105, 110, 97, 114, 121, 83, 73]⟩ := Q2.out
  have c4 := (qty_cells q0).2
  have hleafW : Leaf W.drew := cell_same K2.out.drew HL.out
  have HR : Hid (Calls Tryz.prog 39 #[.pointer (some ⟨p, 0, none⟩)] W.drew fun e w' => e = .returned (.string ⟨#[49, 53, 51, 54, 77, 105]⟩) ∧ w'.cell? ⟨p, 4, none⟩ = some (.string ⟨#[66, 105, 110, 97, 114, 121, 83, 73]⟩) ∧ Kept (fun _ => False) w w') :=
    (canonical_aw p d b W.drew q0 (IntAt.drewN D2.out 1) hleafW).mono (fun e w' h => ⟨h.1, cell_same h.2 c4, K2.out.drew.same h.2⟩)
  clear q0 hleafW
  go_region_with (first | (go_at_call 39; refine HR.out.mono ?_; rintro e w9 ⟨rfl, c9, hk9⟩; have K9 := Lib.hid hk9; clear hk9) | (go_at_call 47; refine (formatOf_bin _).mono ?_; rintro e w8 ⟨rfl, rfl⟩))
  all_goals
    go_wp2_with fail
    go_ret3
    exact ⟨rfl, K9.out⟩
set_option maxRecDepth 100000 in
theorem awake (w : World) (ev : Value) (a : Addr) (hev0 : w.cell? ⟨0, 0, none⟩ = some ev) (heof : Eof w a) (hleaf : Leaf w) :
    Calls Tryz.prog 12 #[] w fun e w' => e = .returned (.bool true) ∧ Kept (fun _ => False) w w' := by
  have H := Lib.hid (Text_aw w ev a hev0 heof hleaf)
  simp only [aw] at H
  clear hev0 heof hleaf
  go_enter Tryz.func12, Tryz.ntmps12
  go_wp2_with fail
  refine H.out.mono ?_
  rintro e w1 ⟨rfl, hk⟩
  go_wp2_with fail
  go_ret
  exact ⟨rfl, hk⟩
end Go.Proofs.YtjebnpkebccffaaGreatDoor
