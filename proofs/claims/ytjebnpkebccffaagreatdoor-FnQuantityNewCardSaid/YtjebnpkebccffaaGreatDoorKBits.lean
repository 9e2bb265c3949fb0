import Derived.Test.YtjebnpkebccffaaGreatDoorKMem
import Derived.Test.YtjebnpkebccffaaGreatDoorKShelf
import Derived.Laws.Externs
import Derived.Lib.Hide
import Derived.BigQuiet
import Derived.Deep.QuietTactic
set_option linter.unusedSimpArgs false
set_option linter.unusedVariables false
set_option linter.unusedSectionVars false
namespace Go.Proofs.YtjebnpkebccffaaGreatDoor
open Go.RowKit
theorem ret_u64 {a b : Nat} (h : a = b) : Ending.returned (.int .u64 (a : Int)) = .returned (.int .u64 (b : Int)) := by rw [h]
def subEntry : Array Value → Sem Value := fun args => do
  let (x, y, b) ← Extern.MathBitsCarry.three "Sub64" args
  pure (Extern.MathBitsCarry.pair ((x + Extern.MathBitsCarry.m64 - y - b) % Extern.MathBitsCarry.m64) (if x < y + b then 1 else 0))
theorem run_subEntry (x y b : Nat) (hb : b ≤ 1) (w : World) :
    (subEntry #[.int .u64 x, .int .u64 y, .int .u64 b]).run Tryz.prog w =
      .ok (.tuple #[.int .u64 ((sbD x y b : Nat) : Int), .int .u64 ((sbB x y b : Nat) : Int)]) w := by
  have : b = 0 ∨ b = 1 := by omega
  rcases this with rfl | rfl <;> rfl
theorem add64_run (x y c : Nat) (hc : c ≤ 1) (w : World) :
    (callFunc 234 #[.int .u64 x, .int .u64 y, .int .u64 c]).run Tryz.prog w =
      .ok (.value (.tuple #[.int .u64 ((adS x y c : Nat) : Int), .int .u64 ((adC x y c : Nat) : Int)])) w := by
  rw [run_callFunc_extern Tryz.func234 (by kernel_rfl) (by kernel_rfl) (by kernel_rfl) (e := add64Entry) (by kernel_rfl), run_add64 x y c (by omega) (by omega) (by omega) (by omega)]
  simp only [Result.andThen, adS, adC, B64]
  congr 5 <;> omega
theorem sub64_run (x y b : Nat) (hb : b ≤ 1) (w : World) :
    (callFunc 236 #[.int .u64 x, .int .u64 y, .int .u64 b]).run Tryz.prog w =
      .ok (.value (.tuple #[.int .u64 ((sbD x y b : Nat) : Int), .int .u64 ((sbB x y b : Nat) : Int)])) w := by
  rw [run_callFunc_extern Tryz.func236 (by kernel_rfl) (by kernel_rfl) (by kernel_rfl) (e := subEntry) (by kernel_rfl), run_subEntry x y b hb]
  rfl
set_option maxHeartbeats 400000 in
theorem bits_Add (x y c : Nat) (hc : c ≤ 1) (w : World) :
    Calls Tryz.prog 209 #[.int .u64 x, .int .u64 y, .int .u64 c] w fun e w' => e = .returned (.tuple #[.int .u64 ((adS x y c : Nat) : Int), .int .u64 ((adC x y c : Nat) : Int)]) ∧ w = w' := by
  have h := fun w => add64_run x y c hc w
  go_enter Tryz.func209, Tryz.ntmps209
  go_wp2
  go_ret2
  exact ⟨rfl, rfl⟩
set_option maxHeartbeats 400000 in
theorem bits_Sub (x y c : Nat) (hc : c ≤ 1) (w : World) :
    Calls Tryz.prog 211 #[.int .u64 x, .int .u64 y, .int .u64 c] w fun e w' => e = .returned (.tuple #[.int .u64 ((sbD x y c : Nat) : Int), .int .u64 ((sbB x y c : Nat) : Int)]) ∧ w = w' := by
  have h := fun w => sub64_run x y c hc w
  go_enter Tryz.func211, Tryz.ntmps211
  go_wp2
  go_ret2
  exact ⟨rfl, rfl⟩
theorem bits_Mul0 (x y : Nat) (hx : x < B64) (hy : y < B64) (w : World) :
    Calls Tryz.prog 200 #[.int .u64 x, .int .u64 y] w fun e w' => e = .returned (.tuple #[.int .u64 ((mwH x y 0 : Nat) : Int), .int .u64 ((mwL x y 0 : Nat) : Int)]) ∧ w = w' :=
  (Tryz.bits_Mul x y hx hy w).mono fun e w' ⟨h1, h2⟩ => ⟨by rw [h1]; simp [mwH, mwL, B64], h2.symm⟩
set_option maxHeartbeats 400000 in
theorem mulWW_any (x y : Nat) (hx : x < B64) (hy : y < B64) (w : World) :
    Calls Tryz.prog 167 #[.int .u64 x, .int .u64 y] w fun e w' => e = .returned (.tuple #[.int .u64 ((mwH x y 0 : Nat) : Int), .int .u64 ((mwL x y 0 : Nat) : Int)]) ∧ w = w' := by
  go_enter Tryz.func167, Tryz.ntmps167
  go_wp2_with (go_at_call 200; refine (bits_Mul0 x y hx hy _).mono ?_; rintro e w' ⟨rfl, rfl⟩)
  go_ret2
  exact ⟨rfl, rfl⟩
theorem mw_add (x y c : Nat) : adS (mwL x y 0) c 0 = mwL x y c ∧ mwH x y 0 + adC (mwL x y 0) c 0 = mwH x y c := by
  have h1 := mw_val x y 0
  have h2 := ad_val (mwL x y 0) c 0
  have h3 := adS_lt (mwL x y 0) c 0
  unfold mwL mwH at *
  have h4 : x * y + c = adS ((x * y + 0) % B64) c 0 + B64 * ((x * y + 0) / B64 + adC ((x * y + 0) % B64) c 0) := by rw [Nat.mul_add]; omega
  rw [h4]
  exact ⟨by rw [Nat.add_mul_mod_self_left, Nat.mod_eq_of_lt h3], by rw [Nat.add_mul_div_left _ _ B64_pos, Nat.div_eq_of_lt h3]; omega⟩
set_option maxHeartbeats 400000 in
theorem mulAddWWW_any (x y c : Nat) (hx : x < B64) (hy : y < B64) (hc : c < B64) (w : World) :
    Calls Tryz.prog 260 #[.int .u64 x, .int .u64 y, .int .u64 c] w fun e w' => e = .returned (.tuple #[.int .u64 ((mwH x y c : Nat) : Int), .int .u64 ((mwL x y c : Nat) : Int)]) ∧ w = w' := by
  obtain ⟨e1, e2⟩ := mw_add x y c
  have hb := mwH_lt hx hy hc
  have hs : IntKind.u64.wrap ((mwH x y 0 : Nat) + (adC (mwL x y 0) c 0 : Nat)) = ((mwH x y c : Nat) : Int) := by
    rw [IntKind.wrap_u64, ← e2]; unfold B64 at hb; omega
  have E1 := Lib.hid e1
  have HS := Lib.hid hs
  clear e1 e2 hs
  go_enter Tryz.func260, Tryz.ntmps260
  go_wp2_with (first | (go_at_call 200; refine (bits_Mul0 x y hx hy _).mono ?_; rintro e w' ⟨rfl, rfl⟩) | (go_at_call 209; refine (bits_Add _ c 0 (by omega) _).mono ?_; rintro e w' ⟨rfl, rfl⟩))
  go_ret2
  refine ⟨?_, rfl⟩
  simp only [Array.getD_eq_getD_getElem?]
  rw [← E1.out, ← HS.out]
  rfl
end Go.Proofs.YtjebnpkebccffaaGreatDoor
namespace Go.Proofs.YtjebnpkebccffaaGreatDoor
open Go.RowKit
set_option maxHeartbeats 1000000 in
theorem mulAddVWW_g_any (zb zo zc xb xo xc m : Nat) (xs : List Nat) (y r : Nat) (cz cx : Array Value) (Tz Tx : TypeId) (w : World)
    (hm : xs.length = m) (hm1 : m ≤ 1000000) (hxs : ∀ x ∈ xs, x < B64) (hy : y < B64) (hr : r < B64)
    (hz : w.heap[zb]? = some (.cells cz Tz (0, 0))) (hzo : zo + m ≤ cz.size) (hx : w.heap[xb]? = some (.cells cx Tx (0, 0))) (hxc : Has cx xo xs) (hsep : zb = xb → zo = xo) :
    Calls Tryz.prog 231 #[.slice (some ⟨zb, zo, none⟩) m zc, .slice (some ⟨xb, xo, none⟩) m xc, .int .u64 y, .int .u64 r] w fun e w' =>
      e = .returned (.int .u64 ((maC xs y r : Nat) : Int)) ∧ w' = putWords w zb zo (maL xs y r) := by
  have HM := Lib.hid hm
  have HZ := Lib.hid hz
  have HX := Lib.hid hx
  have HS := Lib.hid hsep
  have HC := Lib.hid hxc
  have HXS := Lib.hid hxs
  clear hm hz hx hsep hxc hxs
  go_enter Tryz.func231, Tryz.ntmps231
  go_wp2_with fail
  go_loopw [8, 19] (fun c k wr => ∃ j : Nat, j ≤ m ∧ k = .int .i64 j ∧ c = .int .u64 ((maC (xs.take j) y r : Nat) : Int) ∧ wr = putWords w zb zo (maL (xs.take j) y r)) (fun _ k _ => m - (intOf k).toNat)
  case atStart => exact ⟨0, Nat.zero_le _, rfl, rfl, rfl⟩
  case round =>
    obtain ⟨j, hj, rfl, rfl, hwr⟩ := hrel
    have HW := Lib.hid hwr
    clear hwr
    by_cases hlt : j < m
    · have hc := getD_lt HXS.out j
      have hcc : maC (xs.take j) y r < B64 := maC_lt (take_lt HXS.out j) hy hr
      have hlen : (maL (xs.take j) y r).length = j := by rw [maL_len, List.length_take, HM.out]; omega
      have c1 : wr.cell? ⟨xb, xo + j, none⟩ = some (.int .u64 ((xs.getD j 0 : Nat) : Int)) := by
        rw [HW.out]
        exact putWords_reads HZ.out HX.out HC.out j (by rw [HM.out]; exact hlt) (fun h => Or.inl (by rw [hlen]; have := HS.out h; omega))
      have h3 := putWords_next (l := maL (xs.take j) y r) HZ.out j hlen (show zo + j < cz.size by omega)
      rw [← HW.out] at h3
      obtain ⟨⟨u, c2⟩, c3⟩ := h3
      have fin : wr.setCell ⟨zb, zo + j, none⟩ (.int .u64 ((mwL (xs.getD j 0) y (maC (xs.take j) y r) : Nat) : Int)) = putWords w zb zo (maL (xs.take (j + 1)) y r) := by
        rw [take_succ_getD _ _ (by rw [HM.out]; exact hlt), maL_snoc, putWords_snoc, hlen, HW.out]
      have finc : maC (xs.take (j + 1)) y r = mwH (xs.getD j 0) y (maC (xs.take j) y r) := by
        rw [take_succ_getD _ _ (by rw [HM.out]; exact hlt), maC_snoc]
      have FIN := Lib.hid fin
      have FINC := Lib.hid finc
      clear fin finc hlen
      generalize xs.getD j 0 = xj at *
      generalize maC (xs.take j) y r = cj at *
      go_wp2_with (go_at_call 260; refine (mulAddWWW_any _ _ _ hc hy hcc _).mono ?_; rintro e w' ⟨rfl, rfl⟩)
      go_roundw
      case rel => exact ⟨j + 1, by omega, by go_num, by rw [FINC.out], FIN.out⟩
      case measure => simp [intOf]; omega
    · have : j = m := by omega
      subst this
      go_wp2_with fail
      go_ret
      refine ⟨ret_u64 (by rw [List.take_of_length_le (by rw [HM.out]; exact Nat.le_refl _)]), ?_⟩
      rw [HW.out, List.take_of_length_le (by rw [HM.out]; exact Nat.le_refl _)]
set_option maxHeartbeats 400000 in
theorem mulAddVWW_any (zb zo zc xb xo xc m : Nat) (xs : List Nat) (y r : Nat) (cz cx : Array Value) (Tz Tx : TypeId) (w : World)
    (hm : xs.length = m) (hm1 : m ≤ 1000000) (hxs : ∀ x ∈ xs, x < B64) (hy : y < B64) (hr : r < B64)
    (hz : w.heap[zb]? = some (.cells cz Tz (0, 0))) (hzo : zo + m ≤ cz.size) (hx : w.heap[xb]? = some (.cells cx Tx (0, 0))) (hxc : Has cx xo xs) (hsep : zb = xb → zo = xo) :
    Calls Tryz.prog 203 #[.slice (some ⟨zb, zo, none⟩) m zc, .slice (some ⟨xb, xo, none⟩) m xc, .int .u64 y, .int .u64 r] w fun e w' =>
      e = .returned (.int .u64 ((maC xs y r : Nat) : Int)) ∧ w' = putWords w zb zo (maL xs y r) := by
  have HM := Lib.hid hm
  have HZ := Lib.hid hz
  have HX := Lib.hid hx
  have HS := Lib.hid hsep
  have HC := Lib.hid hxc
  have HXS := Lib.hid hxs
  clear hm hz hx hsep hxc hxs
  go_enter Tryz.func203, Tryz.ntmps203
  go_wp2_with (go_at_call 231; refine (mulAddVWW_g_any zb zo zc xb xo xc m xs y r cz cx Tz Tx _ HM.out hm1 HXS.out hy hr HZ.out hzo HX.out HC.out HS.out).mono ?_; rintro e w1 ⟨rfl, hw1⟩; have HW := Lib.hid hw1; clear hw1)
  go_ret
  exact ⟨rfl, HW.out⟩
set_option maxHeartbeats 400000 in
theorem nat_make (v : Value) (b : Option Nat) (n : Nat) (w : World) (hv : BufAt w v b) (h1 : 1 ≤ n) (h2 : n ≤ 900000) :
    Calls Tryz.prog 135 #[v, .int .i64 n] w (Made w b n) := by
  have hmk := fun w => word_make 107 Tryz.underlying107 n (n + 4) (n : Int) ((n : Int) + 4) rfl (by omega) (by omega) (by omega) w
  have hmk1 := fun w => word_make 107 Tryz.underlying107 1 1 1 1 rfl rfl (by omega) (by omega) w
  have new : ∀ (c : Nat) (e : Ending) (w' : World), n ≤ c → c ≤ 1000000 → e = .returned (.slice (some ⟨w.heap.size, 0, none⟩) n c) → w' = w.alloc (.cells (zw c) 165) → Made w b n e w' := by
    intro c e w' hc hc2 he hw
    refine ⟨w.heap.size, zw c, by rw [he, zw_size], by rw [hw]; exact heap_alloc_new _ _, by rw [zw_size]; exact hc, by rw [zw_size]; omega, by rw [zw_size]; exact hc2, Or.inr ⟨rfl, hw⟩⟩
  have NEW := Lib.hid new
  clear new
  cases b with
  | none =>
    obtain rfl := hv
    have a1 : decide ((n : Int) ≤ ((0 : Nat) : Int)) = false := by simp; omega
    by_cases e1 : n = 1
    · subst e1
      go_enter Tryz.func135, Tryz.ntmps135
      go_wp2
      go_ret
      exact NEW.out 1 _ _ (by omega) (by omega) rfl rfl
    · have a2 : ((n : Int) == 1) = false := by simp; omega
      go_enter Tryz.func135, Tryz.ntmps135
      go_wp2
      go_ret
      exact NEW.out (n + 4) _ _ (by omega) (by omega) rfl rfl
  | some k =>
    obtain ⟨l, cs, rfl, hk, hl, hp, hs⟩ := hv
    by_cases hr : n ≤ cs.size
    · have HK := Lib.hid hk
      clear hk
      go_enter Tryz.func135, Tryz.ntmps135
      go_wp2
      go_ret
      exact ⟨k, cs, rfl, HK.out, hr, hp, hs, Or.inl ⟨rfl, rfl⟩⟩
    · have a1 : decide ((n : Int) ≤ ((cs.size : Nat) : Int)) = false := by simp; omega
      have a2 : ((n : Int) == 1) = false := by simp; omega
      have HK := Lib.hid hk
      clear hk
      go_enter Tryz.func135, Tryz.ntmps135
      go_wp2
      go_ret
      exact NEW.out (n + 4) _ _ (by omega) (by omega) rfl rfl
end Go.Proofs.YtjebnpkebccffaaGreatDoor
