import Derived.Test.YtjebnpkebccffaaGreatDoorKDece
import Derived.Test.YtjebnpkebccffaaGreatDoorKRmf
import Derived.Test.YtjebnpkebccffaaGreatDoorKDecs
set_option linter.unusedSimpArgs false
set_option linter.unusedVariables false
set_option linter.unusedSectionVars false
namespace Go.Proofs.YtjebnpkebccffaaGreatDoor
open Go.RowKit
theorem decs_facts : ∀ (k n : Nat), n < 10 ^ (k + 1) → 0 < (decs n).length ∧ (decs n).length ≤ k + 1 ∧ ∀ x ∈ decs n, x < 58 := by
  intro k
  induction k with
  | zero =>
    intro n h
    have h : n < 10 := by simpa using h
    rw [decs_small h]
    simp
    omega
  | succ k ih =>
    intro n h
    by_cases hs : n < 10
    · rw [decs_small hs]; simp; omega
    · rw [decs_big (by omega)]
      obtain ⟨a1, a2, a3⟩ := ih (n / 10) (by rw [Nat.div_lt_iff_lt_mul (by omega), ← Nat.pow_succ]; exact h)
      refine ⟨by simp, by simp; exact a2, fun x hx => ?_⟩
      rcases List.mem_append.1 hx with h' | h'
      · exact a3 x h'
      · simp at h'; omega
theorem append_text (l : List Nat) (h0 : 0 < l.length) (h1 : l.length ≤ 1000) (w : World) :
    ∃ cap cs, (∀ ty, (Builtin.append_ #[57, 9] ty #[.slice none 0 0, .string (strN l)]).run Tryz.prog w = .ok (.slice (some ⟨w.heap.size, 0, none⟩) l.length cap) (w.drew.alloc (.cells cs 5))) ∧ (∀ i, i < l.length → l.getD i 0 < 256 → cs[i]? = some (.int .u8 (l.getD i 0 : Nat))) := by
  obtain ⟨i0, hi, hz0, hz1, hz2⟩ := info_parts Tryz.info5
  have hsz : (strN l).size = l.length := by simp [strN, strOfNums_size]
  have := fun ty => run_append_nil_string (P := Tryz.prog) (w := w) 57 9 ty 5 i0 _ Tryz.underlying57 Tryz.underlying9 hi hz0 (strN l) (by omega) (by omega) (by rw [hz2]; omega)
  simp only [hsz] at this
  refine ⟨_, _, this, fun i hi2 h256 => ?_⟩
  rw [Array.getElem?_append_left (by simp [strN, strOfNums]; omega)]
  simp [strN, strOfNums, List.getD, hi2]
  simp [List.getD, hi2] at h256
  omega
theorem wpList_append_text {w w' : World} {ops : Array Oper} {rest : List Oper} {o : Oper} {a : Act} {Q : Exit → Act → World → Prop} (hg : o.guard = none) (s x : Operand) (hop : o.op = Op.call { callee := Callee.builtin Builtin.append, args := #[s, x], argTypes := #[57, 9] })
    (t : ByteArray) (v : Value) (hs : a.eval s = .slice none 0 0) (hx : a.eval x = .string t) (hrun : ∀ ty, (Builtin.append_ #[57, 9] ty #[.slice none 0 0, .string t]).run Tryz.prog w = .ok v w')
    (hK : wpList Tryz.prog ops Q rest (a.put o.dst v) w') : wpList Tryz.prog ops Q (o :: rest) a w := by
  refine wpList_plain hg fun K hK' => ?_
  unfold Oper.wp
  simp [execOp, hop, resolve, invoke, builtin, hs, hx, hrun, Result.andThen]
  exact hK' _ _ hK
def B1024 (w : World) (n : Nat) (e : Ending) (w' : World) : Prop :=
  ∃ t g cap cs, e = .returned (.tuple #[.slice (some ⟨g, 0, none⟩) (decs (n / 1024 ^ t)).length cap, .int .i32 ((t : Nat) : Int)]) ∧ 1024 ^ t ∣ n ∧ n / 1024 ^ t % 1024 ≠ 0 ∧ w'.heap[g]? = some (.cells cs 5 (0, 0)) ∧ HasB cs 0 (decs (n / 1024 ^ t)) ∧ Kept (fun _ => False) w w'
set_option maxRecDepth 100000 in
set_option maxHeartbeats 1000000 in
theorem base1024 (d n : Nat) (b : Option Nat) (w : World) (hd : DecAt w d (n : Int) 0 b) (hn : n < B64) (hn0 : n ≠ 0) (hleaf : Leaf w) (hl19 : 19 < w.heap.size) :
    Calls Tryz.prog 319 #[.agg #[.pointer (some ⟨d, 0, none⟩)], .slice none 0 0] w (B1024 w n) := by
  have HD := Lib.hid hd
  have HLF := Lib.hid hleaf
  have hwk : Kept (fun _ => False) w ((w.alloc (.cells #[.pointer (some ⟨d, 0, none⟩)] 63)).alloc zDec) := ((Kept.refl _ _).alloc _).alloc _
  have hdl := IntAt.lt hd
  have hz := zDec_at (w.alloc (.cells #[.pointer (some ⟨d, 0, none⟩)] 63))
  have e2 : (w.alloc (.cells #[.pointer (some ⟨d, 0, none⟩)] 63)).heap.size = w.heap.size + 1 := by simp
  rw [e2] at hz
  have b0 : ((w.alloc (.cells #[.pointer (some ⟨d, 0, none⟩)] 63)).alloc zDec).heap[w.heap.size]? = some (.cells #[.pointer (some ⟨d, 0, none⟩)] 63 (0, 0)) := by
    rw [Below.heap_alloc _ _ _ (by simp)]; exact heap_alloc_new _ _
  have HWK := Lib.hid hwk
  have HZ := Lib.hid hz
  have HB0 := Lib.hid b0
  clear hd hleaf hwk hz b0 e2
  go_enter Tryz.func319, Tryz.ntmps319
  go_wp2_with fail
  simp only [zDec] at HWK HZ HB0
  generalize hW : ((w.alloc (.cells #[.pointer (some ⟨d, 0, none⟩)] 63)).alloc (.cells #[.bool false, .slice none 0 0, .int .i32 0] 112)) = W at *
  generalize hS : w.heap.size = S at *
  have HSZ := Lib.hid hS
  have hSW : S + 2 ≤ W.heap.size := by rw [← hW, ← hS]; simp
  have ct : W.cell? ⟨S, 0, none⟩ = some (.pointer (some ⟨d, 0, none⟩)) := by rw [cell_of HB0.out]; rfl
  have ctd : W.drew.cell? ⟨S, 0, none⟩ = some (.pointer (some ⟨d, 0, none⟩)) := ct
  have hDW : DecAt W.drew d (n : Int) 0 b := IntAt.drewN (IntAt.old HD.out HWK.out) 1
  have hZW : DecAt W.drew (S + 1) 0 0 none := IntAt.drewN HZ.out 1
  have HR : Hid (Calls Tryz.prog 66 #[.pointer (some ⟨S + 1, 0, none⟩), .pointer (some ⟨d, 0, none⟩), .int .i32 0, RU] W.drew (DecRes W.drew (S + 1) none (n : Int) 0)) :=
    Dec_Round_of (S + 1) d 0 0 (n : Int) 0 (n : Int) 1 0 none b W.drew hZW hDW (fun w' y c hx hy => quoOK_same hx hy (by omega) (by rw [Int.natAbs_natCast]; exact hn)) (Sm.one (by rw [Int.natAbs_natCast]; exact hn))
  have HAFT : Hid (∀ e w9, DecRes W.drew (S + 1) none (n : Int) 0 e w9 → e = .returned (.pointer (some ⟨S + 1, 0, none⟩)) ∧ Kept (fun _ => False) w w9 ∧ (∃ c, DecAt w9 (S + 1) (n : Int) 0 c ∧ (∀ k, c = some k → S + 2 ≤ k))) := by
    rintro e w9 ⟨rfl, c, h1, h2, h3⟩
    have h2 := h2.undrew
    have hk : Kept (fun _ => False) w w9 := HWK.out.trans h2 (fun _ _ f => f) (fun i hi h => by
      rcases h with h | h
      · omega
      · cases h)
    have hc : ∀ k, c = some k → S + 2 ≤ k := by
      intro k hk'
      rcases h3 with h3 | ⟨j, hj, hjs⟩
      · rw [h3] at hk'; cases hk'
      · rw [hj] at hk'; injection hk' with hk'
        have : W.heap.size ≤ j := hjs
        omega
    exact ⟨rfl, hk, c, h1, hc⟩
  clear hDW hZW hW
  go_region_with (first | (go_at_call 67; refine (RoundUp_any _).mono ?_; rintro e w9 ⟨rfl, rfl⟩) | (go_at_call 66; refine HR.out.mono ?_; intro e w9 h; obtain ⟨rfl, h1, h2⟩ := HAFT.out e w9 h; have G2 := Lib.hid h1; have G3 := Lib.hid h2; clear h h1 h2))
  all_goals
    obtain ⟨c, g3, g4⟩ := G3.out
    have A3 := Lib.hid g3
    have A4 := Lib.hid g4
    have hS' := HSZ.out
    clear g3 g4 HAFT HR ct ctd HZ HB0 HWK
    go_wp2_with fail
    refine (Dec_UnscaledBig (S + 1) (n : Int) 0 c w9 A3.out).mono ?_
    rintro e w10 ⟨rfl, rfl⟩
    go_wp2_with fail
    refine (NewInt_nat 1024 (by omega) w9).mono ?_
    rintro e w10 ⟨y, by_, rfl, hy, ay, ky, qy⟩
    have AY := Lib.hid ay
    have K10 := Lib.hid (kept_new' G2.out ky)
    have A10 := Lib.hid (IntAt.old A3.out ky)
    have SP : Hid (Sep (S + 1) c y by_) := (Sep.fresh hy qy (IntAt.lt A3.out) (IntAt.lts A3.out)).symm
    clear ay ky hy qy
    go_wp2_with fail
    refine (removeBigIntFactors_small (S + 1) y n 1024 c by_ _ [] 112 109 w10 A10.out AY.out SP.out hn hn0 (by unfold B64; omega) (by omega)).mono ?_
    rintro e w11 ⟨t, p, bp, rp, Tp, rfl, hdv, hmod, ap, kp, _⟩
    have K11 : Hid (Kept (fun _ => False) w w11) := K10.out.trans kp (fun _ _ f => f) (fun i hi h => by
      rcases h with h | h
      · omega
      · have := A4.out i h; omega)
    have AP := Lib.hid ap
    have HDV := Lib.hid hdv
    have HMOD := Lib.hid hmod
    clear ap kp hdv hmod A10 AY SP
    go_wp2_with fail
    have hq0 : n / 1024 ^ t ≠ 0 := by intro e; have := HMOD.out; rw [e] at this; exact this rfl
    have hqn : n / 1024 ^ t < B64 := Nat.lt_of_le_of_lt (Nat.div_le_self _ _) hn
    refine (Int_String_of p (n / 1024 ^ t) bp rp Tp w11 AP.out hq0 (Nat.le_trans (dig_len_le (k := 1) (by rw [Nat.pow_one]; exact hqn)) (by omega)) (HLF.out.kept K11.out (fun f => f)) (divW_all _ hqn)).mono ?_
    rintro e w12 ⟨rfl, hk⟩
    have K12 := Lib.hid (kept_new' K11.out hk)
    clear hk
    have hdf := decs_facts 19 (n / 1024 ^ t) (Nat.lt_of_lt_of_le hqn (by unfold B64; decide))
    obtain ⟨hl0, hl1, hl2⟩ := hdf
    obtain ⟨cap, cs, hap, hcs⟩ := append_text (decs (n / 1024 ^ t)) hl0 (by omega) w12
    have HCS : Hid (HasB cs 0 (decs (n / 1024 ^ t))) := by
      intro i hi
      rw [Nat.zero_add]
      refine hcs i hi ?_
      have hm : (decs (n / 1024 ^ t)).getD i 0 ∈ decs (n / 1024 ^ t) := by simp [List.getD, hi]
      have := hl2 _ hm
      omega
    have HNEW : Hid ((w12.drew.alloc (.cells cs 5)).heap[w12.heap.size]? = some (.cells cs 5 (0, 0))) := heap_alloc_new w12.drew _
    generalize hT : decs (n / 1024 ^ t) = T at *
    have HT := Lib.hid hT
    have HAP := Lib.hid hap
    clear hcs hl2 hT hap
    go_wp2_with (at_builtin; refine wpList_append_text rfl _ _ rfl (strN T) _ rfl rfl HAP.out ?_)
    go_ret2
    exact ⟨t, w12.heap.size, cap, cs, by rw [HT.out]; rfl, HDV.out, HMOD.out, HNEW.out, by rw [HT.out]; exact HCS.out, (K12.out.drew).alloc _⟩
end Go.Proofs.YtjebnpkebccffaaGreatDoor
