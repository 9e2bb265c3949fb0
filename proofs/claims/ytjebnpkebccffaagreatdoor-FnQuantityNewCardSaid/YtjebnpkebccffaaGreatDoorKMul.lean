import Derived.Test.YtjebnpkebccffaaGreatDoorKNat
set_option linter.unusedSimpArgs false
set_option linter.unusedVariables false
set_option linter.unusedSectionVars false
namespace Go.Proofs.YtjebnpkebccffaaGreatDoor
open Go.RowKit
theorem ma_words (n y r : Nat) (hy : y < B64) (hr : r < B64) : val (maL (dig n) y r ++ [maC (dig n) y r]) = n * y + r ∧ (∀ x ∈ maL (dig n) y r ++ [maC (dig n) y r], x < B64) ∧ (maL (dig n) y r ++ [maC (dig n) y r]).length = (dig n).length + 1 := by
  refine ⟨?_, ?_, by rw [List.length_append, maL_len]; rfl⟩
  · rw [val_append, maL_len]
    have := ma_val (dig n) y r
    rw [val_dig] at this
    simpa [val] using this
  · intro x hx
    rcases List.mem_append.1 hx with h | h
    · exact maL_lt _ _ _ x h
    · simp at h; subst h; exact maC_lt (dig_lt n) hy hr
theorem made_other {w w1 : World} {b : Option Nat} {k j : Nat} {cs : Array Value} {o : Obj} (h : (b = some k ∧ w1 = w) ∨ (k = w.heap.size ∧ w1 = w.alloc (.cells cs 165))) (ho : w.heap[j]? = some o) : w1.heap[j]? = some o := by
  rcases h with ⟨_, h2⟩ | ⟨_, h2⟩
  · rw [h2]; exact ho
  · rw [h2]; exact (Below.heap_alloc _ _ _ (heap_lt ho)).trans ho
set_option maxHeartbeats 1000000 in
theorem mulAddWW_nat (z x : Value) (bz bx : Option Nat) (n y r : Nat) (w : World) (hz : BufAt w z bz) (hx : NatAt w x n bx) (hy : y < B64) (hr : r < B64) (hn : Sm n) :
    Calls Tryz.prog 173 #[z, x, .int .u64 y, .int .u64 r] w (NatRes w bz (n * y + r)) := by
  by_cases h0 : n = 0 ∨ y = 0
  · have e0 : n * y + r = r := by rcases h0 with h | h <;> simp [h]
    rw [e0]
    have HZ := Lib.hid hz
    by_cases hn0 : n = 0
    · subst hn0
      obtain ⟨a, c, rfl⟩ := zero_val hx
      clear hz hx h0 e0 hn
      go_enter Tryz.func173, Tryz.ntmps173
      go_wp2_with fail
      refine (setWord_any z bz r hr _ HZ.out).mono ?_
      rintro e w1 ⟨v', b', rfl, h⟩
      have H := Lib.hid h
      clear h
      go_wp2_with fail
      go_ret
      exact ⟨v', b', rfl, H.out⟩
    · have hy0 : y = 0 := by rcases h0 with h | h; exact absurd h hn0; exact h
      subst hy0
      obtain ⟨kx, cx, rfl, rfl, hk, hl, hp, hs, hh⟩ := has_val hx hn0
      have a1 : (((dig n).length : Int) == 0) = false := beqF (by have := dig_len_pos hn0; omega)
      clear hz hx h0 e0 hn hn0 hk hh
      go_enter Tryz.func173, Tryz.ntmps173
      go_wp2_with fail
      refine (setWord_any z bz r hr _ HZ.out).mono ?_
      rintro e w1 ⟨v', b', rfl, h⟩
      have H := Lib.hid h
      clear h
      go_wp2_with fail
      go_ret
      exact ⟨v', b', rfl, H.out⟩
  · have hn0 : n ≠ 0 := fun h => h0 (Or.inl h)
    have hy0 : y ≠ 0 := fun h => h0 (Or.inr h)
    obtain ⟨kx, cx, rfl, rfl, hk, hl, hp, hs, hh⟩ := has_val hx hn0
    have hlen : (dig n).length ≤ 100000 := hn
    have hpos := dig_len_pos hn0
    have HW := Lib.hid (ma_words n y r hy hr)
    have HZ := Lib.hid hz
    have HK := Lib.hid hk
    have HH := Lib.hid hh
    have HDL := Lib.hid (dig_lt n)
    have a1 : (((dig n).length : Int) == 0) = false := beqF (by omega)
    have a2 : ((y : Int) == 0) = false := beqF (by omega)
    clear hz hk hh hx hn h0 hn0 hy0
    obtain ⟨ds, hds⟩ : ∃ ds, ds = dig n := ⟨_, rfl⟩
    rw [← hds] at HW HH HDL hpos hlen hl a1 ⊢
    clear hds
    go_enter Tryz.func173, Tryz.ntmps173
    go_wp2_with fail
    refine (nat_make z bz (ds.length + 1) _ HZ.out (by omega) (by omega)).mono ?_
    rintro e w1 ⟨k, cs, rfl, hk, hn, hp', hs', hown⟩
    have hk1 := made_other hown HK.out
    have HO := Lib.hid hown
    have HK1 := Lib.hid hk1
    have HKK := Lib.hid hk
    clear hown hk1 hk
    go_wp2_with fail
    refine (mulAddVWW_any k 0 cs.size kx 0 cx.size ds.length ds y r cs cx 165 165 _ rfl (by omega) HDL.out hy hr HKK.out (by omega) HK1.out HH.out (fun _ => rfl)).mono ?_
    rintro e w2 ⟨rfl, hw2⟩
    have hb2 := putWords_block HKK.out 0 (maL ds y r)
    rw [← hw2] at hb2
    have c2 : w2.cell? ⟨k, ds.length, none⟩ = some (cs[ds.length]) := by
      rw [cell_of hb2, putC_off _ _ _ _ (Or.inr (by rw [maL_len]; omega))]
      exact Array.getElem?_eq_getElem (by omega)
    have f2 := frozen_of hb2 ds.length
    have hfin : w2.setCell ⟨k, ds.length, none⟩ (.int .u64 ((maC ds y r : Nat) : Int)) = putWords w1 k 0 (maL ds y r ++ [maC ds y r]) := by
      rw [putWords_snoc, maL_len, Nat.zero_add, hw2]
    have HF := Lib.hid hfin
    clear hw2 hb2 hfin
    go_wp2_with fail
    obtain ⟨e1, e2, e3⟩ := HW.out
    have hfb := putWords_block HKK.out 0 (maL ds y r ++ [maC ds y r])
    rw [← HF.out] at hfb
    refine (norm_any k 0 cs.size (ds.length + 1) _ _ 165 _ e3 (by omega) (by omega) e2 hfb (putC_has _ _ _ (by omega))).mono ?_
    rintro e w3 ⟨rfl, rfl⟩
    have HFB := Lib.hid hfb
    clear e1 e2 e3 hfb
    go_wp2_with fail
    go_ret
    obtain ⟨e1, e2, e3⟩ := HW.out
    refine natRes_mk HO.out ?_ ?_
    · rw [HF.out]; exact putWords_kept (Kept.refl _ _) k 0 _ (fun _ => rfl)
    · have := natAt_of HFB.out e2 e1 (putC_has _ _ _ (by omega)) (by rw [putC_size]; omega) (by rw [putC_size]; omega) (by rw [putC_size]; omega)
      rw [putC_size] at this
      rw [e1]
      exact this
theorem nat_slice {w : World} {v : Value} {n : Nat} {b : Option Nat} (h : NatAt w v n b) : ∃ a c, v = .slice a (dig n).length c := by
  cases b with
  | none => exact ⟨none, 0, by rw [h.1, h.2, dig_zero]; rfl⟩
  | some k => obtain ⟨cs, h, _⟩ := h; exact ⟨_, _, h⟩
set_option maxHeartbeats 400000 in
theorem mul_nil (s : Option Addr) (az : Option Addr) (lz cz : Nat) (a : Option Addr) (L c : Nat) (a2 : Option Addr) (c2 : Nat) (w : World) :
    Calls Tryz.prog 139 #[.slice az lz cz, .pointer s, .slice a L c, .slice a2 0 c2] w fun e w' => e = .returned (.slice az 0 cz) ∧ w = w' := by
  have a2 : decide ((L : Int) < 0) = false := decF (by omega)
  by_cases hL : L = 0
  · subst hL
    go_enter Tryz.func139, Tryz.ntmps139
    go_wp2_with fail
    go_ret
    exact ⟨rfl, rfl⟩
  · have a1 : ((L : Int) == 0) = false := beqF (by omega)
    go_enter Tryz.func139, Tryz.ntmps139
    go_wp2_with fail
    go_ret
    exact ⟨rfl, rfl⟩
set_option maxHeartbeats 1000000 in
theorem mul_word (s : Option Addr) (z x y : Value) (bz bx by_ : Option Nat) (n m : Nat) (w : World) (hz : BufAt w z bz) (hx : NatAt w x n bx) (hy : NatAt w y m by_) (hm0 : m ≠ 0) (hm : m < B64) (hn : Sm n) :
    Calls Tryz.prog 139 #[z, .pointer s, x, y] w (NatRes w bz (n * m)) := by
  have em := dig_one hm0 hm
  obtain ⟨ky, cy, rfl, rfl, hk, hl, hp, hs, hh⟩ := has_val hy hm0
  have cy0 : w.cell? ⟨ky, 0, none⟩ = some (.int .u64 ((m : Nat) : Int)) := by
    rw [cell_of hk]
    have := hh 0 (by rw [em]; simp)
    rw [em] at this
    exact this
  rw [em] at *
  simp only [List.length_cons, List.length_nil, Nat.zero_add] at *
  by_cases h0 : n = 0
  · subst h0
    obtain ⟨a, c, rfl⟩ := zero_val hx
    have HX := Lib.hid hx
    obtain ⟨az, lz, cz, rfl, hz2⟩ := buf_slice hz
    rw [Nat.zero_mul]
    have HZ := Lib.hid hz2
    clear hx hz hz2 hk hh em hy
    go_enter Tryz.func139, Tryz.ntmps139
    go_wp2_with fail
    refine (mul_nil s az lz cz _ 1 _ a c _).mono ?_
    rintro e w1 ⟨rfl, rfl⟩
    go_wp2_with fail
    go_ret
    exact ⟨_, bz, rfl, HZ.out, Kept.refl _ _, Or.inl rfl⟩
  · have hpos := dig_len_pos h0
    obtain ⟨a, c, rfl⟩ := nat_slice hx
    have HX := Lib.hid hx
    have HZ := Lib.hid hz
    have HN := Lib.hid hn
    have HM := Lib.hid hm
    clear hx hz hk hh em hy hn hm
    have a1 : (((dig n).length : Int) == 0) = false := beqF (by omega)
    generalize hL : (dig n).length = L at *
    have HL := Lib.hid hL
    clear hL
    have a2 : decide ((L : Int) < 1) = false := decF (by omega)
    go_enter Tryz.func139, Tryz.ntmps139
    go_wp2_with fail
    refine (mulAddWW_nat z _ bz bx n m 0 _ HZ.out HX.out HM.out B64_pos HN.out).mono ?_
    rintro e w1 ⟨v', b', rfl, h⟩
    have H := Lib.hid h
    clear h
    go_wp2_with fail
    go_ret
    exact ⟨v', b', rfl, by have := H.out; rwa [Nat.add_zero] at this⟩
set_option maxHeartbeats 1000000 in
theorem mul_word_left (s : Option Addr) (z x y : Value) (bz bx by_ : Option Nat) (n m : Nat) (w : World) (hz : BufAt w z bz) (hx : NatAt w x n bx) (hy : NatAt w y m by_) (hn0 : n ≠ 0) (hn : n < B64) (hm : Sm m) :
    Calls Tryz.prog 139 #[z, .pointer s, x, y] w (NatRes w bz (n * m)) := by
  by_cases h1 : m < B64
  · by_cases hm0 : m = 0
    · subst hm0
      obtain ⟨a, c, rfl⟩ := zero_val hy
      obtain ⟨a', c', rfl⟩ := nat_slice hx
      obtain ⟨az, lz, cz, rfl, hz2⟩ := buf_slice hz
      refine (mul_nil s az lz cz _ _ _ a c w).mono ?_
      rintro e w1 ⟨rfl, rfl⟩
      exact ⟨_, bz, rfl, by rw [Nat.mul_zero]; exact hz2, Kept.refl _ _, Or.inl rfl⟩
    · exact mul_word s z x y bz bx by_ n m w hz hx hy hm0 h1 (Sm.one hn)
  · have HW := Lib.hid (mul_word s z y x bz by_ bx m n w hz hy hx hn0 hn hm)
    have e1 := dig_one hn0 hn
    obtain ⟨a, c, rfl⟩ := nat_slice hx
    obtain ⟨a', c', rfl⟩ := nat_slice hy
    rw [e1] at HW ⊢
    have hlt : 1 < (dig m).length := by
      have := (dig_len_one (n := m)).1
      rcases Nat.lt_or_ge 1 (dig m).length with h | h
      · exact h
      · exact absurd (this h) h1
    clear hx hy hz e1 h1 hm
    generalize (dig m).length = L at *
    have a1 : decide ((1 : Int) < (L : Int)) = true := decT (by omega)
    go_enter Tryz.func139, Tryz.ntmps139
    go_wp2_with fail
    refine HW.out.mono ?_
    rintro e w1 ⟨v', b', rfl, h⟩
    have H := Lib.hid h
    clear h
    go_wp2_with fail
    go_ret
    exact ⟨v', b', rfl, by have := H.out; rwa [Nat.mul_comm] at this⟩
set_option maxHeartbeats 1000000 in
theorem sqr_word (s : Option Addr) (z x : Value) (bz bx : Option Nat) (n : Nat) (w : World) (hz : BufAt w z bz) (hx : NatAt w x n bx) (hn0 : n ≠ 0) (hn : n < B64) :
    Calls Tryz.prog 138 #[z, .pointer s, x] w (NatRes w bz (n * n)) := by
  have em := dig_one hn0 hn
  obtain ⟨ky, cy, rfl, rfl, hk, hl, hp, hs, hh⟩ := has_val hx hn0
  have cy0 : w.cell? ⟨ky, 0, none⟩ = some (.int .u64 ((n : Nat) : Int)) := by
    rw [cell_of hk]
    have := hh 0 (by rw [em]; simp)
    rw [em] at this
    exact this
  rw [em] at *
  simp only [List.length_cons, List.length_nil, Nat.zero_add] at *
  have HZ := Lib.hid hz
  have HN := Lib.hid hn
  clear hx hz hk hh em hn hn0
  go_enter Tryz.func138, Tryz.ntmps138
  go_wp2_with fail
  refine (nat_make z bz 2 _ HZ.out (by omega) (by omega)).mono ?_
  rintro e w1 ⟨k, cs, rfl, hk, hn, hp', hs', hown⟩
  have c1 : w1.cell? ⟨k, 1, none⟩ = some (cs[1]) := by rw [cell_of hk]; exact Array.getElem?_eq_getElem hn
  have c0 : w1.cell? ⟨k, 0, none⟩ = some (cs[0]) := by rw [cell_of hk]; exact Array.getElem?_eq_getElem hp'
  have f1 := frozen_of hk 1
  have f0 := frozen_of hk 0
  have HO := Lib.hid hown
  have HKK := Lib.hid hk
  clear hown hk
  go_wp2_with fail
  refine (mulWW_any n n HN.out HN.out _).mono ?_
  rintro e w2 ⟨rfl, rfl⟩
  go_wp2_with fail
  have hlt : ∀ x ∈ [mwL n n 0, mwH n n 0], x < B64 := by
    intro x hx
    simp at hx
    rcases hx with h | h <;> subst h
    · exact mwL_lt _ _ _
    · exact mwH_lt HN.out HN.out B64_pos
  have hv : val [mwL n n 0, mwH n n 0] = n * n := by
    have := mw_val n n 0
    simp only [val]; omega
  have hb1 := heap_set_same HKK.out 1 (.int .u64 ((mwH n n 0 : Nat) : Int))
  have hb2 := heap_set_same hb1 0 (.int .u64 ((mwL n n 0 : Nat) : Int))
  have hh2 : Has ((cs.setIfInBounds 1 (.int .u64 ((mwH n n 0 : Nat) : Int))).setIfInBounds 0 (.int .u64 ((mwL n n 0 : Nat) : Int))) 0 [mwL n n 0, mwH n n 0] := by
    intro i hi
    simp at hi
    have : i = 0 ∨ i = 1 := by omega
    rcases this with h | h <;> subst h
    · rw [Array.getElem?_setIfInBounds, if_pos rfl, if_pos (by simp; omega)]; rfl
    · rw [Array.getElem?_setIfInBounds, if_neg (by omega), Array.getElem?_setIfInBounds, if_pos rfl, if_pos (by omega)]; rfl
  refine (norm_any k 0 cs.size 2 _ _ 165 _ rfl (by omega) hn hlt hb2 hh2).mono ?_
  rintro e w3 ⟨rfl, rfl⟩
  have HV := Lib.hid hv
  have HLT := Lib.hid hlt
  have HB2 := Lib.hid hb2
  have HH2 := Lib.hid hh2
  clear hv hlt hb1 hb2 hh2
  go_wp2_with fail
  go_ret
  refine natRes_mk HO.out (((Kept.refl (fun i => i = k) w1).setCell ⟨k, 1, none⟩ _ (fun _ => rfl)).setCell ⟨k, 0, none⟩ _ (fun _ => rfl)) ?_
  have := natAt_of HB2.out HLT.out HV.out HH2.out (by simp; omega) (by simp; omega) (by simp; omega)
  rw [HV.out]
  simpa using this
end Go.Proofs.YtjebnpkebccffaaGreatDoor
namespace Go.Proofs.YtjebnpkebccffaaGreatDoor
open Go.RowKit
theorem Drew.natAt {w w' : World} {v : Value} {n : Nat} {b : Option Nat} (h : Drew w w') (hv : NatAt w v n b) : NatAt w' v n b := hv.move fun k _ => by rw [h.heap]
def quoN (a b : Nat) : Nat := a / b
def remN (a b : Nat) : Nat := a % b
set_option maxHeartbeats 800000 in
theorem bitsDiv64_zero (lo y : Nat) (hl : lo < B64) (hy : y < B64) (h0 : y ≠ 0) (w : World) :
    Calls Tryz.prog 288 #[.int .u64 0, .int .u64 lo, .int .u64 y] w fun e w' => e = .returned (.tuple #[.int .u64 ((quoN lo y : Nat) : Int), .int .u64 ((remN lo y : Nat) : Int)]) ∧ Drew w w' := by
  have a1 : ((y : Int) == 0) = false := beqF (by omega)
  have a2 : decide ((y : Int) ≤ 0) = false := decF (by omega)
  have b1 : 0 ≤ (lo : Int) := by omega
  have b2 : 0 < (y : Int) := by omega
  have b3 : 1 ≤ (y : Int) := by omega
  unfold B64 at hl hy
  go_enter Tryz.func288, Tryz.ntmps288
  go_wp2_with fail
  go_quiet (fail)
  go_wp2_with fail
  go_ret2
  refine ⟨?_, Drew.step (Drew.refl _) _⟩
  have c1 : lo / y < 18446744073709551616 := Nat.lt_of_le_of_lt (Nat.div_le_self _ _) hl
  have c2 : lo % y < 18446744073709551616 := Nat.lt_of_le_of_lt (Nat.mod_le _ _) hl
  have d1 : ((lo : Int) / (y : Int)) = ((lo / y : Nat) : Int) := (Int.natCast_ediv _ _).symm
  have d2 : ((lo : Int) % (y : Int)) = ((lo % y : Nat) : Int) := (Int.natCast_emod _ _).symm
  have d3 : IntKind.u64.wrap ((lo : Int) / (y : Int)) = ((lo / y : Nat) : Int) := by
    rw [IntKind.wrap_u64, d1]
    generalize lo / y = q at c1
    omega
  simp [quoN, remN, d3]
set_option maxHeartbeats 400000 in
theorem bitsDiv_zero (lo y : Nat) (hl : lo < B64) (hy : y < B64) (h0 : y ≠ 0) (w : World) :
    Calls Tryz.prog 274 #[.int .u64 0, .int .u64 lo, .int .u64 y] w fun e w' => e = .returned (.tuple #[.int .u64 ((quoN lo y : Nat) : Int), .int .u64 ((remN lo y : Nat) : Int)]) ∧ Drew w w' := by
  go_enter Tryz.func274, Tryz.ntmps274
  go_wp2_with fail
  refine (bitsDiv64_zero lo y hl hy h0 _).mono ?_
  rintro e w' ⟨rfl, n, rfl⟩
  go_wp2_with fail
  go_ret2
  exact ⟨rfl, n, rfl⟩
set_option maxHeartbeats 800000 in
theorem divWVW_one (zb xb : Nat) (zc xc : Nat) (x y : Nat) (cz cx : Array Value) (w : World) (hx : x < B64) (hy : y < B64) (h0 : y ≠ 0)
    (hz : w.heap[zb]? = some (.cells cz 165 (0, 0))) (hzp : 0 < cz.size) (hxb : w.heap[xb]? = some (.cells cx 165 (0, 0))) (hxc : Has cx 0 [x]) :
    Calls Tryz.prog 249 #[.slice (some ⟨zb, 0, none⟩) 1 zc, .int .u64 0, .slice (some ⟨xb, 0, none⟩) 1 xc, .int .u64 y] w fun e w' =>
      e = .returned (.int .u64 ((remN x y : Nat) : Int)) ∧ ∃ n, w' = (putWords w zb 0 [quoN x y]).drewN n := by
  have c1 : w.cell? ⟨xb, 0, none⟩ = some (.int .u64 (x : Int)) := by rw [cell_of hxb]; exact hxc 0 (by simp)
  have c2 : w.cell? ⟨zb, 0, none⟩ = some (cz[0]) := by rw [cell_of hz]; exact Array.getElem?_eq_getElem hzp
  have f2 := frozen_of hz 0
  clear hz hxb hxc
  go_enter Tryz.func249, Tryz.ntmps249
  go_wp2_with fail
  refine (bitsDiv_zero x y hx hy h0 _).mono ?_
  rintro e w' ⟨rfl, n, rfl⟩
  go_wp2_with fail
  go_ret
  exact ⟨rfl, n, rfl⟩
def DivW (w : World) (b : Option Nat) (q r : Nat) (e : Ending) (w' : World) : Prop :=
  ∃ v' b', e = .returned (.tuple #[v', .int .u64 (r : Int)]) ∧ NatAt w' v' q b' ∧ Kept (fun k => b = some k) w w' ∧ Own w b b'
set_option maxHeartbeats 1000000 in
theorem divW_small (z x : Value) (bz bx : Option Nat) (n y : Nat) (w : World) (hz : BufAt w z bz) (hx : NatAt w x n bx) (hn : n < B64) (hy : y < B64) (hy0 : y ≠ 0) :
    Calls Tryz.prog 223 #[z, x, .int .u64 y] w (DivW w bz (quoN n y) (remN n y)) := by
  have a0 : ((y : Int) == 0) = false := beqF (by omega)
  by_cases h1 : y = 1
  · subst h1
    have e1 : quoN n 1 = n := Nat.div_one n
    have e2 : remN n 1 = 0 := Nat.mod_one n
    rw [e1, e2]
    have HZ := Lib.hid hz
    have HX := Lib.hid hx
    obtain ⟨a, c, rfl⟩ := nat_slice hx
    clear hz hx e1 e2
    generalize hL : (dig n).length = L at *
    clear hL
    go_enter Tryz.func223, Tryz.ntmps223
    go_wp2_with fail
    refine (set_any z _ bz bx n _ HZ.out HX.out (Sm.one hn)).mono ?_
    rintro e w1 ⟨v', b', rfl, h⟩
    have H := Lib.hid h
    clear h
    go_wp2_with fail
    go_ret2
    exact ⟨v', b', rfl, H.out⟩
  · have a1 : ((y : Int) == 1) = false := beqF (by omega)
    by_cases h0 : n = 0
    · subst h0
      obtain ⟨a, c, rfl⟩ := zero_val hx
      obtain ⟨az, lz, cz, rfl, hz2⟩ := buf_slice hz
      have e1 : quoN 0 y = 0 := Nat.zero_div y
      have e2 : remN 0 y = 0 := Nat.zero_mod y
      rw [e1, e2]
      have HZ := Lib.hid hz2
      clear hx hz hz2 e1 e2
      go_enter Tryz.func223, Tryz.ntmps223
      go_wp2_with fail
      go_ret2
      exact ⟨_, bz, rfl, HZ.out, Kept.refl _ _, Or.inl rfl⟩
    · have em := dig_one h0 hn
      obtain ⟨kx, cx, rfl, rfl, hk, hl, hp, hs, hh⟩ := has_val hx h0
      rw [em] at hh ⊢
      have HZ := Lib.hid hz
      have HK := Lib.hid hk
      have HH := Lib.hid hh
      have HN := Lib.hid hn
      clear hx hz hk hh em hl hn
      simp only [List.length_cons, List.length_nil, Nat.zero_add]
      go_enter Tryz.func223, Tryz.ntmps223
      go_wp2_with fail
      refine (nat_make z bz 1 _ HZ.out (by omega) (by omega)).mono ?_
      rintro e w1 ⟨k, cs, rfl, hk, hn, hp', hs', hown⟩
      have hk1 := made_other hown HK.out
      have HO := Lib.hid hown
      have HK1 := Lib.hid hk1
      have HKK := Lib.hid hk
      clear hown hk1 hk
      go_wp2_with fail
      refine (divWVW_one k kx cs.size cx.size n y cs cx _ HN.out hy hy0 HKK.out hp' HK1.out HH.out).mono ?_
      rintro e w2 ⟨rfl, nq, rfl⟩
      have hq : quoN n y < B64 := Nat.lt_of_le_of_lt (Nat.div_le_self _ _) HN.out
      have hlt : ∀ x ∈ [quoN n y], x < B64 := by intro x hx; simp at hx; subst hx; exact hq
      have hb := putWords_block HKK.out 0 [quoN n y]
      have hbh := putC_has cs 0 [quoN n y] (by simp only [List.length_cons, List.length_nil]; omega)
      have HB := Lib.hid hb
      have HBH := Lib.hid hbh
      have HLT := Lib.hid hlt
      have HPK := Lib.hid (putWords_kept (Kept.refl (fun i => i = k) w1) k 0 [quoN n y] (fun _ => rfl))
      clear hb hbh hlt
      generalize putWords w1 k 0 [quoN n y] = w2 at *
      go_wp2_with fail
      refine (norm_any k 0 cs.size 1 [quoN n y] _ 165 (w2.drewN nq) rfl (by omega) hn HLT.out HB.out HBH.out).mono ?_
      rintro e w3 ⟨rfl, rfl⟩
      go_wp2_with fail
      go_ret2
      have := natAt_of (w := w2.drewN nq) HB.out HLT.out rfl HBH.out (by rw [putC_size]; simp only [List.length_cons, List.length_nil]; omega) (by rw [putC_size]; exact hp') (by rw [putC_size]; exact hs')
      rw [putC_size] at this
      have hv : val [quoN n y] = quoN n y := by simp [val]
      obtain ⟨v1, b1, e1, h1', h2', h3'⟩ := natRes_mk (w := w) (v := .slice (some ⟨k, 0, none⟩) (dig (val [quoN n y])).length cs.size) HO.out (HPK.out.drewN nq) this
      injection e1 with e1
      subst e1
      rw [hv] at h1'
      exact ⟨_, b1, rfl, h1', h2', h3'⟩
def QR (w : World) (b b2 : Option Nat) (q r : Nat) (e : Ending) (w' : World) : Prop :=
  ∃ vq bq vr br, e = .returned (.tuple #[vq, vr]) ∧ NatAt w' vq q bq ∧ NatAt w' vr r br ∧ Kept (fun k => b = some k ∨ b2 = some k) w w' ∧ Own w b bq ∧ Own w b2 br ∧ (∀ k, bq = some k → br ≠ some k)
theorem own_apart {w w1 : World} {b b2 bq br : Option Nat} (h : Own w b bq) (hq : ∀ k, bq = some k → k < w1.heap.size) (h2 : Own w1 b2 br) (hb : ∀ k, b = some k → b2 ≠ some k) (hb2 : ∀ k, b2 = some k → k < w.heap.size) : ∀ k, bq = some k → br ≠ some k := by
  intro k hk hr
  rcases h2 with h2 | ⟨j, hj, hjs⟩
  · rcases h with h | ⟨i, hi, his⟩
    · exact hb k (by rw [← h, hk]) (by rw [← h2, hr])
    · have e1 : k = i := by rw [hk] at hi; exact Option.some.inj hi
      have := hb2 k (by rw [← h2, hr])
      omega
  · have e1 : k = j := by rw [hr] at hj; exact Option.some.inj hj
    have := hq k hk
    omega
theorem NatAt.lts {w : World} {v : Value} {n : Nat} {b : Option Nat} (h : NatAt w v n b) : ∀ k, b = some k → k < w.heap.size := by
  intro k hk; subst hk; exact h.lt
theorem BufAt.lts {w : World} {v : Value} {b : Option Nat} (h : BufAt w v b) : ∀ k, b = some k → k < w.heap.size := by
  intro k hk; subst hk; exact h.lt
set_option maxHeartbeats 1000000 in
theorem div_by_word (s : Option Addr) (z z2 u v : Value) (bz bz2 bu bv : Option Nat) (n m : Nat) (w : World) (hz : BufAt w z bz) (hz2 : BufAt w z2 bz2) (hv : NatAt w v m bv) (hu : NatAt w u n bu) (hm : m < B64) (hm0 : m ≠ 0)
    (hap : ∀ k, bz = some k → bz2 ≠ some k) (hd : Calls Tryz.prog 223 #[z, u, .int .u64 m] w (DivW w bz (quoN n m) (remN n m))) :
    Calls Tryz.prog 196 #[z, .pointer s, z2, u, v] w (QR w bz bz2 (quoN n m) (remN n m)) := by
  have em := dig_one hm0 hm
  obtain ⟨ky, cy, rfl, rfl, hk, hl, hp, hs, hh⟩ := has_val hv hm0
  have cy0 : w.cell? ⟨ky, 0, none⟩ = some (.int .u64 ((m : Nat) : Int)) := by
    rw [cell_of hk]
    have := hh 0 (by rw [em]; simp)
    rw [em] at this
    exact this
  rw [em] at *
  simp only [List.length_cons, List.length_nil, Nat.zero_add] at *
  have HZ2 := Lib.hid hz2
  have HD := Lib.hid hd
  have HAP := Lib.hid hap
  have hr : remN n m < B64 := Nat.lt_of_lt_of_le (Nat.mod_lt _ (by omega)) (by omega)
  clear hz hz2 hu hv hk hh em hd hap
  go_enter Tryz.func196, Tryz.ntmps196
  go_wp2_with fail
  refine HD.out.mono ?_
  rintro e w1 ⟨vq, bq, rfl, hq, hkq, hoq⟩
  have hz2' : BufAt w1 z2 bz2 := HZ2.out.kept hkq (fun k hk h => HAP.out k h hk)
  have HQ := Lib.hid hq
  have HKQ := Lib.hid hkq
  have HOQ := Lib.hid hoq
  have HZ2' := Lib.hid hz2'
  clear hq hkq hoq hz2'
  go_wp2_with fail
  refine (setWord_any z2 bz2 _ hr _ HZ2'.out).mono ?_
  rintro e w2 ⟨vr, br, rfl, hr, hkr, hor⟩
  have HR := Lib.hid hr
  have HKR := Lib.hid hkr
  have HOR := Lib.hid hor
  clear hr hkr hor
  go_wp2_with fail
  go_ret2
  have hsz := HKQ.out.size
  refine ⟨vq, bq, vr, br, rfl, HQ.out.kept HKR.out ?_, HR.out, HKQ.out.trans HKR.out (fun _ _ h => Or.inl h) (fun _ _ h => Or.inr h), HOQ.out, ?_, own_apart HOQ.out HQ.out.lts HOR.out HAP.out HZ2.out.lts⟩
  · intro k hk h
    rcases HOQ.out with h1 | ⟨j, h1, h2⟩
    · exact HAP.out k (by rw [← h1, hk]) h
    · have : k = j := by rw [hk] at h1; exact Option.some.inj h1
      have := HZ2.out.lts k h
      omega
  · rcases HOR.out with h1 | ⟨j, h1, h2⟩
    · exact Or.inl h1
    · exact Or.inr ⟨j, h1, by omega⟩
end Go.Proofs.YtjebnpkebccffaaGreatDoor
