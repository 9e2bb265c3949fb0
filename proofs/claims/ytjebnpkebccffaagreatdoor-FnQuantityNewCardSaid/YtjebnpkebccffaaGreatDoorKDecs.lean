import Derived.Test.YtjebnpkebccffaaGreatDoorKLog
import Derived.Test.YtjebnpkebccffaaGreatDoorKLsh
import Derived.Laws.BytesArg
set_option linter.unusedSimpArgs false
set_option linter.unusedVariables false
set_option linter.unusedSectionVars false
namespace Go.Proofs.YtjebnpkebccffaaGreatDoor
open Go.RowKit
def decs (n : Nat) : List Nat := if h : n < 10 then [48 + n] else decs (n / 10) ++ [48 + n % 10]
termination_by n
decreasing_by omega
theorem decs_small {n : Nat} (h : n < 10) : decs n = [48 + n] := by unfold decs; rw [dif_pos h]
theorem decs_big {n : Nat} (h : 10 ≤ n) : decs n = decs (n / 10) ++ [48 + n % 10] := by rw [decs]; rw [dif_neg (by omega)]
theorem decs_spec : ∀ (k n : Nat), (k = 0 ∨ 10 ^ k ≤ n) → n < 10 ^ (k + 1) → (decs n).length = k + 1 ∧ ∀ p, p ≤ k → (decs n)[p]? = some (48 + n / 10 ^ (k - p) % 10) := by
  intro k
  induction k with
  | zero =>
    intro n _ h
    have h : n < 10 := by simpa using h
    rw [decs_small h]
    refine ⟨rfl, fun p hp => ?_⟩
    have : p = 0 := by omega
    subst this
    simp
    omega
  | succ k ih =>
    intro n h1 h2
    have h1 : 10 ^ (k + 1) ≤ n := by rcases h1 with h | h; omega; exact h
    have hge : 10 ≤ n := Nat.le_trans (by have := Nat.pow_le_pow_right (n := 10) (by omega) (show 1 ≤ k + 1 by omega); simpa using this) h1
    rw [decs_big hge]
    have a1 : k = 0 ∨ 10 ^ k ≤ n / 10 := Or.inr (by rw [Nat.le_div_iff_mul_le (by omega), ← Nat.pow_succ]; exact h1)
    have a2 : n / 10 < 10 ^ (k + 1) := by rw [Nat.div_lt_iff_lt_mul (by omega), ← Nat.pow_succ]; exact h2
    obtain ⟨b1, b2⟩ := ih (n / 10) a1 a2
    refine ⟨by simp [b1], fun p hp => ?_⟩
    by_cases e : p ≤ k
    · rw [List.getElem?_append_left (by omega), b2 p e, Nat.div_div_eq_div_mul, ← Nat.pow_succ', show (k - p).succ = k + 1 - p by omega]
    · have : p = k + 1 := by omega
      subst this
      rw [List.getElem?_append_right (by omega)]
      simp [b1]
def HasB (cs : Array Value) (o : Nat) (l : List Nat) : Prop := ∀ i, i < l.length → cs[o + i]? = some (.int .u8 (l.getD i 0 : Nat))
theorem Tryz.info5 : (Tryz.prog.info? 5).map (fun i => (i.zero, i.size, i.bytes)) = some (some (.int .u8 0), 1, 1) := by kernel_rfl
def zb (n : Nat) : Array Value := madeCells #[.int .u8 0] n
theorem byte_make (n : Nat) (h2 : n ≤ 1000000) (w : World) :
    (Instr.makeSlice 57 (.int .i64 (n : Int)) (.int .i64 (n : Int))).run Tryz.prog w = .ok (.slice (some ⟨w.heap.size, 0, none⟩) n n) (w.alloc (.cells (zb n) 5)) := by
  obtain ⟨i0, hi, hz0, hz1, hz2⟩ := info_parts Tryz.info5
  have := run_make (P := Tryz.prog) w 57 5 i0 _ Tryz.underlying57 hi hz0 .i64 .i64 n n (by omega) (by omega) (by rw [hz2]; omega) (by omega)
  rw [this]
  simp only [Int.toNat_natCast, hz1, Nat.mul_one]
  rfl
theorem digs_new (w : World) (n L : Nat) : Digs (w.alloc (.cells (zb L) 5)) w.heap.size n L L :=
  ⟨zb L, heap_alloc_new _ _, size_madeCells _ _, fun p h1 h2 => by omega⟩
def ItoaRes (w : World) (t : List Nat) (e : Ending) (w' : World) : Prop :=
  ∃ s off cap cs, e = .returned (.slice (some ⟨s, off, none⟩) t.length cap) ∧ w'.heap[s]? = some (.cells cs 5 (0, 0)) ∧ w.heap.size ≤ s ∧ HasB cs off t ∧ off + t.length ≤ cs.size ∧ cs.size ≤ 1000000 ∧ Kept (fun _ => False) w w'
theorem first_place {w : World} {s n L i : Nat} (h : Digs w s n L 0) (hi : i < L) (hn : n < 10 ^ (L - i)) (hd : dgt n L i ≠ 0) : (decs n).length = L - i ∧ ∃ cs, w.heap[s]? = some (.cells cs 5 (0, 0)) ∧ cs.size = L ∧ HasB cs i (decs n) := by
  obtain ⟨cs, h1, h2, h3⟩ := h
  obtain ⟨k, hk⟩ : ∃ k, L - i = k + 1 := ⟨L - i - 1, by omega⟩
  have hge : 10 ^ k ≤ n := by
    rcases Nat.lt_or_ge n (10 ^ k) with h | h
    · exfalso; apply hd; unfold dgt; rw [show L - 1 - i = k by omega, Nat.div_eq_of_lt h]
    · exact h
  obtain ⟨a1, a2⟩ := decs_spec k n (Or.inr hge) (by rw [← hk]; exact hn)
  refine ⟨by omega, cs, h1, h2, fun p hp => ?_⟩
  rw [h3 (i + p) (by omega) (by omega)]
  have := a2 p (by omega)
  rw [List.getD_eq_getElem?_getD, this]
  unfold dgt
  rw [show L - 1 - (i + p) = k - p by omega]
  rfl
end Go.Proofs.YtjebnpkebccffaaGreatDoor
namespace Go.Proofs.YtjebnpkebccffaaGreatDoor
open Go.RowKit
theorem heap_lt_cell {w : World} {b i : Nat} {v : Value} (h : w.cell? ⟨b, i, none⟩ = some v) : b < w.heap.size := by
  rcases Nat.lt_or_ge b w.heap.size with h' | h'
  · exact h'
  · unfold World.cell? at h
    rw [Array.getElem?_eq_none h'] at h
    cases h
theorem Leaf.kept {S : Nat → Prop} {w w' : World} (h : Leaf w) (hk : Kept S w w') (hs : ¬ S 19) : Leaf w' := by
  have hlt : 19 < w.heap.size := by
    rcases Nat.lt_or_ge 19 w.heap.size with h' | h'
    · exact h'
    · unfold Leaf World.cell? at h
      rw [Array.getElem?_eq_none h'] at h
      cases h
  unfold Leaf World.cell? at *
  rw [hk.block 19 hlt hs]
  exact h
set_option maxRecDepth 100000 in
set_option maxHeartbeats 2000000 in
theorem itoa_pos (x : Value) (bx : Option Nat) (n : Nat) (w : World) (hx : NatAt w x n bx) (h0 : n ≠ 0) (hn : (dig n).length ≤ 8) (hleaf : Leaf w)
    (hdiv : ∀ (W : World) (v : Value) (b : Option Nat) (m : Nat), m ≤ n → NatAt W v m b → Calls Tryz.prog 223 #[v, v, .int .u64 10000000000000000000] W (DivW W b (quoN m 10000000000000000000) (remN m 10000000000000000000))) :
    Calls Tryz.prog 237 #[x, .bool false, .int .i64 10] w (ItoaRes w (decs n)) := by
  have hsm : Sm n := by unfold Sm; omega
  obtain ⟨q, k, t1, t2, t3, t4⟩ := tab_facts (nbits n) (by have := nbits_le n; omega)
  have hlt : n < 10 ^ (k + 1) := Nat.lt_of_lt_of_le (nbits_lt n) t4
  have HB := Lib.hid (bitLen_any x bx n w hx h0 hsm)
  have HX := Lib.hid hx
  have HSM := Lib.hid hsm
  have HD := Lib.hid hdiv
  have HLEAF := Lib.hid hleaf
  have HLT := Lib.hid hlt
  have HN0 := Lib.hid h0
  have hpos := dig_len_pos h0
  obtain ⟨ax, cx, rfl⟩ := nat_slice hx
  generalize hL : (dig n).length = ℓ at *
  have f1 := fun w => cv_float ((nbits n : Nat) : Int) w
  generalize nbits n = nb at *
  generalize FloatKind.f64.nearest ((nb : Nat) : Int) = fb at *
  have f2 := fun w => quo_float fb _ q t1 w
  have f3 := fun w => cv_int q k t2 t3 w
  have f4 := fun w => fcv10 w
  have b1 : bits .and .u64 10 18446744073709551606 = 2 := by decide +kernel
  have mk : ∀ w : World, (Instr.makeSlice 57 (.int .i64 ((k : Int) + 1)) (.int .i64 ((k : Int) + 1))).run Tryz.prog w = .ok (.slice (some ⟨w.heap.size, 0, none⟩) (k + 1) (k + 1)) (w.alloc (.cells (zb (k + 1)) 5)) := fun w => byte_make (k + 1) (by omega) w
  clear hx hsm hdiv hleaf hlt h0 t1 t2 t4 hL
  go_enter_defers Tryz.func237, Tryz.ntmps237
  go_wp2_with fail
  refine HB.out.mono ?_
  rintro e w1 ⟨rfl, rfl⟩
  go_wp2_with fail
  refine (Log2_c _).mono ?_
  rintro e w1 ⟨rfl, rfl⟩
  go_wp2_with fail
  refine (getStack_any _).mono ?_
  rintro e w1 ⟨rfl, hw1⟩
  have hst : w1.cell? ⟨w.heap.size + 1, 0, none⟩ = some (.pointer none) := by
    have : w1.heap[w.heap.size + 1]? = some (.cells #[.pointer none] 309) := by rw [hw1]; simpa using heap_alloc_new (w.alloc (.cells (zb (k + 1)) 5)) (.cells #[.pointer none] 309)
    rw [cell_of this]; rfl
  have hk1 : Kept (fun _ => False) w w1 := by rw [hw1]; exact ((Kept.refl _ _).alloc _).alloc _
  have hd1 : Digs w1 w.heap.size n (k + 1) (k + 1) := by rw [hw1]; exact (digs_new w n (k + 1)).move (Below.heap_alloc _ _ _ (by simp))
  have hsz : w1.heap.size = w.heap.size + 2 := by rw [hw1]; simp
  have hl1 : Leaf w1 := HLEAF.out.kept hk1 (fun f => f)
  have HST := Lib.hid hst
  have HK1 := Lib.hid hk1
  have HD1 := Lib.hid hd1
  have HSZ := Lib.hid hsz
  have HL1 := Lib.hid hl1
  have HX1 := Lib.hid (HX.out.kept hk1 (fun _ _ f => f))
  have esz : (w.alloc (.cells (zb (k + 1)) 5)).heap.size = w.heap.size + 1 := by simp
  clear hst hk1 hd1 hsz hl1 hw1 esz
  go_wp2_with fail
  refine (maxPow_ten _).mono ?_
  rintro e w2 ⟨rfl, rfl⟩
  go_wp2_with fail
  refine (divisors_small _ ℓ _ _ _ _ hn HL1.out).mono ?_
  rintro e w2 ⟨rfl, rfl⟩
  go_wp2_with fail
  refine (set_nil _ bx n _ HX1.out HSM.out).mono ?_
  rintro e w2 ⟨v2, b2, rfl, h1, h2, h3⟩
  have hb2 : b2 ≠ some w.heap.size := by
    rcases h3 with h3 | ⟨j, hj, hjs⟩
    · rw [h3]; simp
    · rw [hj]; intro e; injection e with e; have := HSZ.out; omega
  have hd2 : Digs w2 w.heap.size n (k + 1) (k + 1) := HD1.out.move (h2.block _ (by have := HSZ.out; omega) (by simp))
  have hk2 : Kept (fun _ => False) w w2 := HK1.out.trans h2 (fun _ _ f => f) (fun _ _ f => by cases f)
  have hst2 : w2.cell? ⟨w.heap.size + 1, 0, none⟩ = some (.pointer none) := by
    unfold World.cell?
    rw [h2.block _ (by have := HSZ.out; show w.heap.size + 1 < _; omega) (by simp)]
    exact HST.out
  have hb2' : ∀ j, b2 = some j → w1.heap.size ≤ j := by
    intro j hj
    rcases h3 with h3 | ⟨i, hi, his⟩
    · rw [h3] at hj; cases hj
    · rw [hi] at hj; injection hj with hj; omega
  have HN2 := Lib.hid h1
  have HB2 := Lib.hid hb2
  have HD2 := Lib.hid hd2
  have HK2 := Lib.hid hk2
  have HST2 := Lib.hid hst2
  have HB2' := Lib.hid hb2'
  clear h1 h2 h3 hb2 hd2 hk2 hst2 hb2' HK1 HD1 HL1 HX1 HST HB HX HSM HLEAF
  go_wp2_with fail
  refine (convertWords_ten v2 _ b2 n (k + 1) w.heap.size (k + 1) w2 HN2.out HD2.out HB2.out (by omega) HLT.out HD.out).mono ?_
  rintro e w3 ⟨rfl, hdg, hkp⟩
  have hk3 : Kept (fun _ => False) w w3 := HK2.out.trans hkp (fun _ _ f => f) (fun i hi f => by
    rcases f with f | f
    · omega
    · have := HB2'.out i f; have := HSZ.out; omega)
  have hst3 : w3.cell? ⟨w.heap.size + 1, 0, none⟩ = some (.pointer none) := by
    unfold World.cell?
    rw [hkp.block (w.heap.size + 1) (heap_lt_cell HST2.out) (by
      intro f
      rcases f with f | f
      · omega
      · have := HB2'.out _ f; have := HSZ.out; omega)]
    exact HST2.out
  have HDG := Lib.hid hdg
  have HK3 := Lib.hid hk3
  have HST3 := Lib.hid hst3
  clear hdg hkp hk3 hst3 HN2 HB2 HD2 HK2 HST2 HB2' HD HSZ
  generalize hS : w.heap.size = S at *
  have HS := Lib.hid hS
  clear hS mk f1 f2 f3 f4 b1
  go_wp2_with fail
  go_loop [7] (fun i => ∃ i' : Nat, i' < k + 1 ∧ i = .int .i64 (i' : Int) ∧ n < 10 ^ (k + 1 - i')) (fun i => k + 1 - (intOf i).toNat)
  case atStart => exact ⟨0, by omega, rfl, HLT.out⟩
  case round =>
    obtain ⟨i, hi, rfl, hnn⟩ := hrel
    have c1 : w3.cell? ⟨S, i, none⟩ = some (.int .u8 ((48 + dgt n (k + 1) i : Nat) : Int)) := by
      obtain ⟨cs, h1, h2, h3⟩ := HDG.out
      rw [cell_of h1]
      exact h3 i (by omega) hi
    have HNN := Lib.hid hnn
    clear hnn
    by_cases hz : dgt n (k + 1) i = 0
    · rw [hz] at c1
      have HZ := Lib.hid hz
      clear hz
      go_wp2_with fail
      go_round
      case rel =>
        have h1 : n < 10 ^ (k + 1 - (i + 1)) := by
          have hz := HZ.out
          unfold dgt at hz
          rw [show k + 1 - 1 - i = k + 1 - (i + 1) by omega] at hz
          have h2 : n / 10 ^ (k + 1 - (i + 1)) < 10 := by
            rw [Nat.div_lt_iff_lt_mul (Nat.pow_pos (by omega)), ← Nat.pow_succ', show (k + 1 - (i + 1)).succ = k + 1 - i by omega]
            exact HNN.out
          have h3 : n / 10 ^ (k + 1 - (i + 1)) = 0 := by
            generalize n / 10 ^ (k + 1 - (i + 1)) = t at *
            omega
          exact (Nat.div_eq_zero_iff.1 h3).resolve_left (Nat.pos_iff_ne_zero.1 (Nat.pow_pos (by omega)))
        refine ⟨i + 1, ?_, by go_num, h1⟩
        rcases Nat.lt_or_ge (i + 1) (k + 1) with h | h
        · exact h
        · rw [show k + 1 - (i + 1) = 0 by omega, Nat.pow_zero] at h1
          have := HN0.out
          omega
      case measure => simp [intOf]; omega
    · have g1 : (((48 + dgt n (k + 1) i : Nat) : Int) == 48) = false := beqF (by omega)
      have HFIN := Lib.hid (first_place HDG.out hi HNN.out hz)
      clear hz
      generalize dgt n (k + 1) i = dd at *
      go_wp2_with fail
      refine leaves_cons (f := 170) (args := #[.pointer (some ⟨S + 1, 0, none⟩)]) (by simp) (by simp [go_sem]) ?_
      refine (stack_free_d (S + 1) .returning w3 HST3.out).mono ?_
      rintro e u' w4 ⟨rfl, rfl, rfl⟩
      refine ⟨_, results_tmp rfl _ _ _, ?_⟩
      obtain ⟨e1, cs, e2, e3, e4⟩ := HFIN.out
      exact ⟨S, i, k + 1 - i, cs, by rw [e1]; rfl, e2, by have := HS.out; omega, e4, by omega, by omega, HK3.out⟩
end Go.Proofs.YtjebnpkebccffaaGreatDoor
namespace Go.Proofs.YtjebnpkebccffaaGreatDoor
open Go.RowKit
def strN (l : List Nat) : ByteArray := strOfNums (l.map fun (x : Nat) => (x : Int))
theorem conv_text {w : World} {s off cap : Nat} {cs : Array Value} {l : List Nat} (h : w.heap[s]? = some (.cells cs 5 (0, 0))) (hb : HasB cs off l) :
    (convert 57 9 (.slice (some ⟨s, off, none⟩) l.length cap)).run Tryz.prog w = .ok (.string (strN l)) w := by
  refine run_convert_bytes_arg w 57 5 Tryz.underlying57 Tryz.underlying5 s off l.length cap _ (by simp) (fun i hi => ?_) 9 Tryz.underlying9
  rw [cell_of h, hb i hi]
  simp [List.getD, List.getElem?_map]
  cases l[i]? <;> simp
set_option maxRecDepth 100000 in
set_option maxHeartbeats 1000000 in
theorem Int_Text_of (x : Nat) (n : Nat) (bx : Option Nat) (rx : List Value) (Tx : TypeId) (w : World) (hx : IntAt w x (n : Int) bx rx Tx) (h0 : n ≠ 0) (hn : (dig n).length ≤ 8) (hleaf : Leaf w)
    (hdiv : ∀ (W : World) (v : Value) (b : Option Nat) (m : Nat), m ≤ n → NatAt W v m b → Calls Tryz.prog 223 #[v, v, .int .u64 10000000000000000000] W (DivW W b (quoN m 10000000000000000000) (remN m 10000000000000000000))) :
    Calls Tryz.prog 213 #[.pointer (some ⟨x, 0, none⟩), .int .i64 10] w fun e w' => e = .returned (.string (strN (decs n))) ∧ Kept (fun _ => False) w w' := by
  obtain ⟨vx, hx1, hx2, hx3⟩ := hx
  obtain ⟨cx0, cx1, _, _⟩ := int_cells hx1
  rw [decF (Int.not_lt.2 (Int.natCast_nonneg n))] at cx0
  rw [Int.natAbs_natCast] at hx2
  have HC := Lib.hid (itoa_pos vx bx n w.drew (by exact hx2) h0 hn (by exact hleaf) hdiv)
  clear hx1 hx2 hleaf hdiv
  go_enter Tryz.func213, Tryz.ntmps213
  go_wp2_with fail
  go_region_with (go_at_call 237; refine HC.out.mono ?_; rintro e w1 ⟨s, off, cap, cs, rfl, h1, h2, h3, h4, h5, h6⟩; have hcv := conv_text (cap := cap) h1 h3; have H := Lib.hid h6.undrew; clear h1 h2 h3 h4 h5 h6)
  all_goals
    go_wp2_with fail
    go_ret
    exact ⟨rfl, H.out⟩
set_option maxHeartbeats 400000 in
theorem Int_String_of (x : Nat) (n : Nat) (bx : Option Nat) (rx : List Value) (Tx : TypeId) (w : World) (hx : IntAt w x (n : Int) bx rx Tx) (h0 : n ≠ 0) (hn : (dig n).length ≤ 8) (hleaf : Leaf w)
    (hdiv : ∀ (W : World) (v : Value) (b : Option Nat) (m : Nat), m ≤ n → NatAt W v m b → Calls Tryz.prog 223 #[v, v, .int .u64 10000000000000000000] W (DivW W b (quoN m 10000000000000000000) (remN m 10000000000000000000))) :
    Calls Tryz.prog 190 #[.pointer (some ⟨x, 0, none⟩)] w fun e w' => e = .returned (.string (strN (decs n))) ∧ Kept (fun _ => False) w w' := by
  have H := Lib.hid (Int_Text_of x n bx rx Tx w hx h0 hn hleaf hdiv)
  clear hx h0 hn hleaf hdiv
  go_enter Tryz.func190, Tryz.ntmps190
  go_wp2_with fail
  refine H.out.mono ?_
  rintro e w1 ⟨rfl, h⟩
  have H := Lib.hid h
  clear h
  go_wp2_with fail
  go_ret
  exact ⟨rfl, H.out⟩
theorem divW_all (n : Nat) (hn : n < B64) : ∀ (W : World) (v : Value) (b : Option Nat) (m : Nat), m ≤ n → NatAt W v m b → Calls Tryz.prog 223 #[v, v, .int .u64 10000000000000000000] W (DivW W b (quoN m 10000000000000000000) (remN m 10000000000000000000)) :=
  fun W v b m hm h => divW_small v v b b m 10000000000000000000 W h.buf h (by omega) (by unfold B64; omega) (by omega)
end Go.Proofs.YtjebnpkebccffaaGreatDoor
