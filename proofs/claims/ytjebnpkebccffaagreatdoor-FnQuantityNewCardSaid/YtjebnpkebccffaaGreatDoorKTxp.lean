import Derived.Test.YtjebnpkebccffaaGreatDoorKDint
set_option linter.unusedSimpArgs false
set_option linter.unusedVariables false
set_option linter.unusedSectionVars false
namespace Go.Proofs.YtjebnpkebccffaaGreatDoor
open Go.RowKit
def ch (x : Nat) : UInt8 := UInt8.ofNat (48 + x)
def txtL (neg : Bool) (l : List Nat) : ByteArray := ⟨((if neg = true then [45] else []) ++ l.map ch).toArray⟩
def txtD (d : Dm) : ByteArray := if d.ds = [] then ⟨#[48]⟩ else txtL d.neg (wideL d 0)
theorem digS_at (y : Nat) (h : y ≤ 9) : digS.extract y (y + 1) = ⟨#[ch y]⟩ := by
  match y, h with
  | 0, _ => rfl
  | 1, _ => rfl
  | 2, _ => rfl
  | 3, _ => rfl
  | 4, _ => rfl
  | 5, _ => rfl
  | 6, _ => rfl
  | 7, _ => rfl
  | 8, _ => rfl
  | 9, _ => rfl
  | n + 10, h => omega
theorem txtL_snoc (neg : Bool) (l : List Nat) (x : Nat) : txtL neg l ++ (⟨#[ch x]⟩ : ByteArray) = txtL neg (l ++ [x]) := by
  unfold txtL
  rw [List.map_append, ← List.append_assoc]
  apply ByteArray.ext
  rw [ByteArray.data_append]
  simp
theorem txtL_size (neg : Bool) (l : List Nat) : (txtL neg l).size ≤ l.length + 1 := by
  unfold txtL
  show ((if neg = true then [45] else []) ++ l.map ch).toArray.size ≤ _
  cases neg <;> simp
def intD (d : Dm) : Int × Bool :=
  if 0 < d.ds.length ∧ (d.e < 0 ∨ 19 < (d.ds.length : Int) + d.e) then (0, false)
  else if d.neg = true then (wrap64 (IntKind.u64.wrap (-(dv (wideL d 0) : Int))), decide (dv (wideL d 0) ≤ 9223372036854775808))
  else (wrap64 (dv (wideL d 0) : Int), decide (dv (wideL d 0) < 9223372036854775808))
theorem dv_take_lt {l : List Nat} (h : ∀ x ∈ l, x ≤ 9) (hl : l.length ≤ 19) (i : Nat) : dv (l.take i) < 10000000000000000000 := by
  have h1 := dv_lt (l.take i) (fun x hx => h x (List.mem_of_mem_take hx))
  have h2 : (l.take i).length ≤ 19 := by rw [List.length_take]; omega
  exact Nat.lt_of_lt_of_le h1 (Nat.le_trans (Nat.pow_le_pow_right (by omega) h2) (by decide))
end Go.Proofs.YtjebnpkebccffaaGreatDoor
namespace Go.Proofs.YtjebnpkebccffaaGreatDoor
open Go.RowKit
def IntBool (w : World) (n : Int) (k : Bool) (e : Ending) (w' : World) : Prop := e = .returned (.tuple #[.int .i64 n, .bool k]) ∧ Kept (fun _ => False) w w'
def StrIs (w : World) (t : ByteArray) (e : Ending) (w' : World) : Prop := e = .returned (.string t) ∧ Kept (fun _ => False) w w'
theorem ns_cellv {w : World} {p : Option Addr} {c : Nat} {l : List Nat} {b : Option Nat} (h : NsAt w (.slice p l.length c) l b) : ∀ i, i < l.length → ∃ (k o : Nat), p = some ⟨k, o, none⟩ ∧ w.cell? ⟨k, o + i, none⟩ = some (.int .i64 ((l.getD i 0 : Nat) : Int)) := by
  intro i hi
  cases b with
  | none => rw [h.2] at hi; simp at hi
  | some k =>
    obtain ⟨o, cap, cs, h1, h2, h3, h4, h5⟩ := h
    injection h1 with h1
    exact ⟨k, o, h1, by rw [cell_of h4]; exact h5 i hi⟩
set_option maxRecDepth 100000 in
set_option maxHeartbeats 4000000 in
theorem DecimalInt_any (v : Value) (d : Dm) (w : World) (h : DmAt w v d) (hl : d.ds.length ≤ 5000) (hdg : ∀ x ∈ d.ds, x ≤ 9) (he : -5000 ≤ d.e ∧ d.e ≤ 5000) : Calls Tryz.prog 17 #[v] w (IntBool w (intD d).1 (intD d).2) := by
  obtain ⟨p, c, b, rfl, hs⟩ := h.shape2
  have hwl := wide_len d 0
  have hwd : ∀ x ∈ wideL d 0, x ≤ 9 := wide_dig hdg
  have hlen : d.ds.length = 0 ∨ (0 ≤ d.e ∧ (d.ds.length : Int) + d.e ≤ 19) → (wideL d 0).length ≤ 19 := fun h => by
    rcases h with h | h
    · unfold wideL; rw [if_pos (List.eq_nil_of_length_eq_zero h)]; simp
    · omega
  have hdef : intD d = if 0 < d.ds.length ∧ (d.e < 0 ∨ 19 < (d.ds.length : Int) + d.e) then (0, false) else if d.neg = true then (wrap64 (IntKind.u64.wrap (-(dv (wideL d 0) : Int))), decide (dv (wideL d 0) ≤ 9223372036854775808)) else (wrap64 (dv (wideL d 0) : Int), decide (dv (wideL d 0) < 9223372036854775808)) := rfl
  generalize intD d = R at *
  generalize hn : d.ds.length = n at *
  have k0 : Kept (fun _ => False) w (w.alloc (.cells #[.bool d.neg, .slice p n c, .int .i64 d.e] 30)) := (Kept.refl _ _).alloc _
  have hb := heap_alloc_new w (.cells #[.bool d.neg, .slice p n c, .int .i64 d.e] 30)
  generalize hW : w.alloc (.cells #[.bool d.neg, .slice p n c, .int .i64 d.e] 30) = W at *
  have K0 := Lib.hid k0
  have HB := Lib.hid hb
  obtain ⟨c0, c1, c2⟩ := cells3 hb
  have HWI := Lib.hid (wide_any (.agg #[.bool d.neg, .slice p n c, .int .i64 d.e]) d 0 W (⟨_, b, rfl, hs.old k0⟩) (by omega) (by omega) (by omega))
  generalize wideL d 0 = L at *
  have HL := Lib.hid hl
  have HE := Lib.hid he
  have HWL := Lib.hid hwl
  have HDG := Lib.hid hwd
  have HDEF := Lib.hid hdef
  have HLEN := Lib.hid hlen
  clear h hs hb k0 hdg hwl hwd hdef hlen
  by_cases hg : 0 < n ∧ (d.e < 0 ∨ 19 < (n : Int) + d.e)
  · have HR : Hid (R = (0, false)) := by show R = _; rw [HDEF.out, if_pos hg]
    obtain ⟨h1, h2⟩ := hg
    have q0 : decide (0 < (n : Int)) = true := decT (by omega)
    by_cases he0 : d.e < 0
    · go_enter Tryz.func17, Tryz.ntmps17
      go_wp2_with fail
      go_ret2
      exact ⟨by rw [HR.out]; rfl, K0.out⟩
    · have he1 : 19 < (n : Int) + d.e := by omega
      go_enter Tryz.func17, Tryz.ntmps17
      go_wp2_with fail
      go_ret2
      exact ⟨by rw [HR.out]; rfl, K0.out⟩
  · have HR : Hid (R = if d.neg = true then (wrap64 (IntKind.u64.wrap (-(dv L : Int))), decide (dv L ≤ 9223372036854775808)) else (wrap64 (dv L : Int), decide (dv L < 9223372036854775808))) := by show R = _; rw [HDEF.out, if_neg hg]
    have HL19 := Lib.hid (HLEN.out (by omega))
    have hcase : n = 0 ∨ (0 < n ∧ 0 ≤ d.e ∧ (n : Int) + d.e ≤ 19) := by omega
    clear hg
    rcases hcase with rfl | ⟨hn0, he0, he1⟩
    · go_enter Tryz.func17, Tryz.ntmps17
      go_wp2_with fail
      refine HWI.out.mono ?_
      rintro e w2 ⟨r, b2, rfl, hr, hk⟩
      obtain ⟨p2, c2', rfl⟩ := slice_shape hr
      have hx := ns_cellv hr
      have HX := Lib.hid hx
      have HTK := Lib.hid (dv_take_lt HDG.out HL19.out)
      have HTS : Hid (∀ i, i < L.length → dv (L.take (i + 1)) = 10 * dv (L.take i) + L.getD i 0) := fun i hi => dv_take L i hi
      have HTA : Hid (L.take L.length = L) := List.take_length
      have HDD : Hid (∀ i, i < L.length → L.getD i 0 ≤ 9) := fun i hi => HDG.out _ (getD_mem hi)
      generalize hN : L.length = N at *
      have hb2 := hk.at HB.out (fun f => f)
      obtain ⟨g0, g1, g2⟩ := cells3 hb2
      have HK := Lib.hid (K0.out.same hk)
      have hNN : N ≤ 19 := HL19.out
      have HNN := Lib.hid hNN
      clear hr hk hx hb2 c0 c1 c2 hN HWI hNN
      go_wp2_with fail
      go_loop [4, 28] (fun v4 v28 => ∃ i : Nat, v4 = .int .u64 (dv (L.take i) : Int) ∧ v28 = .int .i64 (i : Int) ∧ i ≤ N) (fun _ v28 => N - uOf v28)
      case atStart => exact ⟨0, by simp [dv], rfl, by omega⟩
      case round =>
        obtain ⟨i, rfl, rfl, hi⟩ := hrel
        rcases Nat.lt_or_ge i N with hlt | hge
        · obtain ⟨k, o, rfl, cy⟩ := HX.out i hlt
          have hNN := HNN.out
          have hts := HTS.out i hlt
          have hb1 := HTK.out (i + 1)
          have hb0 := HDD.out i hlt
          have HT := Lib.hid hts
          clear hts
          generalize L.getD i 0 = y at *
          have hT2 := HT.out
          generalize hX2 : dv (L.take (i + 1)) = x2 at *
          have HX2 := Lib.hid hX2
          generalize dv (L.take i) = x at *
          have hw1 : IntKind.u64.wrap (10 * (x : Int)) = 10 * (x : Int) := by rw [IntKind.wrap_u64]; omega
          have hw2 : IntKind.u64.wrap (10 * (x : Int) + (y : Int)) = 10 * (x : Int) + (y : Int) := by rw [IntKind.wrap_u64]; omega
          have hw3 : IntKind.u64.wrap (y : Int) = (y : Int) := by rw [IntKind.wrap_u64]; omega
          have HY : Hid ((x2 : Int) = 10 * (x : Int) + (y : Int)) := by show (x2 : Int) = _; omega
          clear hb1 hb0 hT2 hX2
          go_wp2_with fail
          go_round
          case rel => exact ⟨i + 1, by rw [HX2.out, HY.out], rfl, by omega⟩
          case measure => simp [uOf]; omega
        · obtain rfl : i = N := by omega
          rw [HTA.out]
          have hb1 := HTK.out i
          rw [HTA.out] at hb1
          generalize dv L = x at *
          have HBX := Lib.hid hb1
          clear hb1
          cases hneg : d.neg with
          | true =>
            rw [hneg] at g0
            have HR2 := HR.out
            rw [if_pos hneg] at HR2
            have HR3 := Lib.hid HR2
            clear HR2 hneg
            by_cases hfit : x ≤ 9223372036854775808
            · have hd1 : decide ((x : Int) ≤ 9223372036854775808) = true := decT (by omega)
              have HD2 : Hid (decide (x ≤ 9223372036854775808) = true) := decide_eq_true hfit
              clear hfit
              go_wp2_with fail
              go_ret2
              exact ⟨by rw [HR3.out, HD2.out]; rfl, HK.out⟩
            · have hd1 : decide ((x : Int) ≤ 9223372036854775808) = false := decF (by omega)
              have HD2 : Hid (decide (x ≤ 9223372036854775808) = false) := decide_eq_false hfit
              clear hfit
              go_wp2_with fail
              go_ret2
              exact ⟨by rw [HR3.out, HD2.out]; rfl, HK.out⟩
          | false =>
            rw [hneg] at g0
            have HR2 := HR.out
            rw [if_neg (by rw [hneg]; decide)] at HR2
            have HR3 := Lib.hid HR2
            clear HR2 hneg
            by_cases hfit : x < 9223372036854775808
            · have hd1 : decide ((x : Int) < 9223372036854775808) = true := decT (by omega)
              have HD2 : Hid (decide (x < 9223372036854775808) = true) := decide_eq_true hfit
              clear hfit
              go_wp2_with fail
              go_ret2
              exact ⟨by rw [HR3.out, HD2.out]; rfl, HK.out⟩
            · have hd1 : decide ((x : Int) < 9223372036854775808) = false := decF (by omega)
              have HD2 : Hid (decide (x < 9223372036854775808) = false) := decide_eq_false hfit
              clear hfit
              go_wp2_with fail
              go_ret2
              exact ⟨by rw [HR3.out, HD2.out]; rfl, HK.out⟩
    · have q0 : decide (0 < (n : Int)) = true := decT (by omega)
      go_enter Tryz.func17, Tryz.ntmps17
      go_wp2_with fail
      refine HWI.out.mono ?_
      rintro e w2 ⟨r, b2, rfl, hr, hk⟩
      obtain ⟨p2, c2', rfl⟩ := slice_shape hr
      have hx := ns_cellv hr
      have HX := Lib.hid hx
      have HTK := Lib.hid (dv_take_lt HDG.out HL19.out)
      have HTS : Hid (∀ i, i < L.length → dv (L.take (i + 1)) = 10 * dv (L.take i) + L.getD i 0) := fun i hi => dv_take L i hi
      have HTA : Hid (L.take L.length = L) := List.take_length
      have HDD : Hid (∀ i, i < L.length → L.getD i 0 ≤ 9) := fun i hi => HDG.out _ (getD_mem hi)
      generalize hN : L.length = N at *
      have hb2 := hk.at HB.out (fun f => f)
      obtain ⟨g0, g1, g2⟩ := cells3 hb2
      have HK := Lib.hid (K0.out.same hk)
      have hNN : N ≤ 19 := HL19.out
      have HNN := Lib.hid hNN
      clear hr hk hx hb2 c0 c1 c2 hN HWI hNN
      go_wp2_with fail
      go_loop [4, 28] (fun v4 v28 => ∃ i : Nat, v4 = .int .u64 (dv (L.take i) : Int) ∧ v28 = .int .i64 (i : Int) ∧ i ≤ N) (fun _ v28 => N - uOf v28)
      case atStart => exact ⟨0, by simp [dv], rfl, by omega⟩
      case round =>
        obtain ⟨i, rfl, rfl, hi⟩ := hrel
        rcases Nat.lt_or_ge i N with hlt | hge
        · obtain ⟨k, o, rfl, cy⟩ := HX.out i hlt
          have hNN := HNN.out
          have hts := HTS.out i hlt
          have hb1 := HTK.out (i + 1)
          have hb0 := HDD.out i hlt
          have HT := Lib.hid hts
          clear hts
          generalize L.getD i 0 = y at *
          have hT2 := HT.out
          generalize hX2 : dv (L.take (i + 1)) = x2 at *
          have HX2 := Lib.hid hX2
          generalize dv (L.take i) = x at *
          have hw1 : IntKind.u64.wrap (10 * (x : Int)) = 10 * (x : Int) := by rw [IntKind.wrap_u64]; omega
          have hw2 : IntKind.u64.wrap (10 * (x : Int) + (y : Int)) = 10 * (x : Int) + (y : Int) := by rw [IntKind.wrap_u64]; omega
          have hw3 : IntKind.u64.wrap (y : Int) = (y : Int) := by rw [IntKind.wrap_u64]; omega
          have HY : Hid ((x2 : Int) = 10 * (x : Int) + (y : Int)) := by show (x2 : Int) = _; omega
          clear hb1 hb0 hT2 hX2
          go_wp2_with fail
          go_round
          case rel => exact ⟨i + 1, by rw [HX2.out, HY.out], rfl, by omega⟩
          case measure => simp [uOf]; omega
        · obtain rfl : i = N := by omega
          rw [HTA.out]
          have hb1 := HTK.out i
          rw [HTA.out] at hb1
          generalize dv L = x at *
          have HBX := Lib.hid hb1
          clear hb1
          cases hneg : d.neg with
          | true =>
            rw [hneg] at g0
            have HR2 := HR.out
            rw [if_pos hneg] at HR2
            have HR3 := Lib.hid HR2
            clear HR2 hneg
            by_cases hfit : x ≤ 9223372036854775808
            · have hd1 : decide ((x : Int) ≤ 9223372036854775808) = true := decT (by omega)
              have HD2 : Hid (decide (x ≤ 9223372036854775808) = true) := decide_eq_true hfit
              clear hfit
              go_wp2_with fail
              go_ret2
              exact ⟨by rw [HR3.out, HD2.out]; rfl, HK.out⟩
            · have hd1 : decide ((x : Int) ≤ 9223372036854775808) = false := decF (by omega)
              have HD2 : Hid (decide (x ≤ 9223372036854775808) = false) := decide_eq_false hfit
              clear hfit
              go_wp2_with fail
              go_ret2
              exact ⟨by rw [HR3.out, HD2.out]; rfl, HK.out⟩
          | false =>
            rw [hneg] at g0
            have HR2 := HR.out
            rw [if_neg (by rw [hneg]; decide)] at HR2
            have HR3 := Lib.hid HR2
            clear HR2 hneg
            by_cases hfit : x < 9223372036854775808
            · have hd1 : decide ((x : Int) < 9223372036854775808) = true := decT (by omega)
              have HD2 : Hid (decide (x < 9223372036854775808) = true) := decide_eq_true hfit
              clear hfit
              go_wp2_with fail
              go_ret2
              exact ⟨by rw [HR3.out, HD2.out]; rfl, HK.out⟩
            · have hd1 : decide ((x : Int) < 9223372036854775808) = false := decF (by omega)
              have HD2 : Hid (decide (x < 9223372036854775808) = false) := decide_eq_false hfit
              clear hfit
              go_wp2_with fail
              go_ret2
              exact ⟨by rw [HR3.out, HD2.out]; rfl, HK.out⟩
set_option maxRecDepth 100000 in
set_option maxHeartbeats 4000000 in
theorem DecimalText_any (v : Value) (d : Dm) (w : World) (h : DmAt w v d) (hl : d.ds.length ≤ 5000) (hdg : ∀ x ∈ d.ds, x ≤ 9) (he : -5000 ≤ d.e ∧ d.e ≤ 5000) : Calls Tryz.prog 35 #[v] w (StrIs w (txtD d)) := by
  obtain ⟨p, c, b, rfl, hs⟩ := h.shape2
  have hwl := wide_len d 0
  have hwd : ∀ x ∈ wideL d 0, x ≤ 9 := wide_dig hdg
  have hdef0 : d.ds.length = 0 → txtD d = ⟨#[48]⟩ := fun h => by unfold txtD; rw [if_pos (List.eq_nil_of_length_eq_zero h)]
  have hdef1 : d.ds.length ≠ 0 → txtD d = txtL d.neg (wideL d 0) := fun h => by unfold txtD; rw [if_neg (fun e => h (by rw [e]; rfl))]
  generalize txtD d = R at *
  generalize hn : d.ds.length = n at *
  have k0 : Kept (fun _ => False) w (w.alloc (.cells #[.bool d.neg, .slice p n c, .int .i64 d.e] 30)) := (Kept.refl _ _).alloc _
  have hb := heap_alloc_new w (.cells #[.bool d.neg, .slice p n c, .int .i64 d.e] 30)
  generalize hW : w.alloc (.cells #[.bool d.neg, .slice p n c, .int .i64 d.e] 30) = W at *
  have K0 := Lib.hid k0
  have HB := Lib.hid hb
  obtain ⟨c0, c1, c2⟩ := cells3 hb
  have HWI := Lib.hid (wide_any (.agg #[.bool d.neg, .slice p n c, .int .i64 d.e]) d 0 W (⟨_, b, rfl, hs.old k0⟩) (by omega) (by omega) (by omega))
  generalize wideL d 0 = L at *
  have HL := Lib.hid hl
  have HE := Lib.hid he
  have HWL := Lib.hid hwl
  have HDG := Lib.hid hwd
  have HD0 := Lib.hid hdef0
  have HD1 := Lib.hid hdef1
  clear h hs hb k0 hdg hwl hwd hdef0 hdef1
  by_cases hz : n = 0
  · have HR := Lib.hid (HD0.out hz)
    subst hz
    go_enter Tryz.func35, Tryz.ntmps35
    go_wp2_with fail
    go_ret
    exact ⟨by rw [HR.out]; rfl, K0.out⟩
  · have HR := Lib.hid (HD1.out hz)
    have q0 : ((n : Int) == 0) = false := beqF (by omega)
    have main : ∀ neg : Bool, d.neg = neg → Calls Tryz.prog 35 #[.agg #[.bool d.neg, .slice p n c, .int .i64 d.e]] w (StrIs w R) := by
      intro neg hneg
      cases neg
      all_goals
        rw [hneg] at c0 HWI HB HR ⊢
        rw [hneg] at hW
        go_enter Tryz.func35, Tryz.ntmps35
        go_wp2_with fail
        refine HWI.out.mono ?_
        rintro e w2 ⟨r, b2, rfl, hr, hk⟩
        obtain ⟨p2, c2', rfl⟩ := slice_shape hr
        have hx := ns_cellv hr
        have HX := Lib.hid hx
        have HTS : Hid (∀ ng i, i < L.length → L.getD i 0 ≤ 9 ∧ txtL ng (L.take i) ++ digS.extract (L.getD i 0) (L.getD i 0 + 1) = txtL ng (L.take (i + 1))) := fun ng i hi => by
          have h9 := HDG.out _ (getD_mem hi)
          exact ⟨h9, by rw [digS_at _ h9, txtL_snoc, ← take_snoc L i hi]⟩
        have HTA : Hid (L.take L.length = L) := List.take_length
        have HTL : Hid (∀ ng i, (txtL ng (L.take i)).size ≤ i + 1) := fun ng i => Nat.le_trans (txtL_size ng _) (by rw [List.length_take]; omega)
        have hwl2 := HWL.out
        generalize hN : L.length = N at *
        have HK := Lib.hid (K0.out.same hk)
        have hNB : N ≤ 10000 := by have := HL.out; have := HE.out; omega
        have HNN := Lib.hid hNB
        clear hr hk hx hwl2 c0 c1 c2 hNB hN HWI HB hW
        go_wp2_with fail
        go_loop [3, 15] (fun v3 v15 => ∃ (ng : Bool) (i : Nat), Hid (R = txtL ng L) ∧ v3 = .string (txtL ng (L.take i)) ∧ v15 = .int .i64 (i : Int) ∧ i ≤ N) (fun _ v15 => N - uOf v15)
        case atStart => exact ⟨_, 0, HR, rfl, rfl, by omega⟩
        case round =>
          obtain ⟨ng, i, HRR, rfl, rfl, hi⟩ := hrel
          rcases Nat.lt_or_ge i N with hlt | hge
          · obtain ⟨k, o, rfl, cy⟩ := HX.out i hlt
            have hNN := HNN.out
            obtain ⟨h9, hts⟩ := HTS.out ng i hlt
            have HT := Lib.hid hts
            have hsz := HTL.out ng i
            clear hts
            generalize L.getD i 0 = y at *
            generalize txtL ng (L.take i) = t at *
            go_wp2_with fail
            go_round
            case rel => exact ⟨ng, i + 1, HRR, by rw [← HT.out]; rfl, rfl, by omega⟩
            case measure => simp [uOf]; omega
          · obtain rfl : i = N := by omega
            rw [HTA.out]
            go_wp2_with fail
            go_ret
            exact ⟨by rw [HRR.out]; rfl, HK.out⟩
    exact main d.neg rfl
end Go.Proofs.YtjebnpkebccffaaGreatDoor
