import Derived.Test.YtjebnpkebccffaaGreatDoorKLsh
import Derived.Laws.Externs
set_option linter.unusedSimpArgs false
set_option linter.unusedVariables false
set_option linter.unusedSectionVars false
namespace Go.Proofs.YtjebnpkebccffaaGreatDoor
open Go.RowKit
theorem alog (w : World) : (Extern.MathLog.archLog #[.float .f64 4603804719079489536]).run Tryz.prog w = .ok (.float .f64 13825510489450817230) w := by kernel_rfl
theorem x294 (w : World) : (callFunc 294 #[.float .f64 4603804719079489536]).run Tryz.prog w = .ok (.value (.float .f64 13825510489450817230)) w := by
  rw [run_callFunc_extern Tryz.func294 (by kernel_rfl) (by kernel_rfl) (by kernel_rfl) (show Extern.find Tryz.f294 = some Extern.MathLog.archLog by kernel_rfl), alog]; rfl
set_option maxHeartbeats 400000 in
theorem Log_c (w : World) : Calls Tryz.prog 290 #[.float .f64 4603804719079489536] w fun e w' => e = .returned (.float .f64 13825510489450817230) ∧ w = w' := by
  have h := fun w => x294 w
  go_enter Tryz.func290, Tryz.ntmps290
  go_wp2_with fail
  go_ret
  exact ⟨rfl, rfl⟩
theorem x299 (w : World) : (callFunc 299 #[.float .f64 4621819117588971520]).run Tryz.prog w = .ok (.value (.int .u64 4621819117588971520)) w := by
  rw [run_callFunc_extern Tryz.func299 (by kernel_rfl) (by kernel_rfl) (by kernel_rfl) (show Extern.find Tryz.f299 = some Extern.MathFloatBits.float64bits by kernel_rfl)]
  rfl
theorem x193a (w : World) : (callFunc 193 #[.int .u64 4621819117588971520]).run Tryz.prog w = .ok (.value (.float .f64 4621819117588971520)) w := by
  rw [run_callFunc_extern Tryz.func193 (by kernel_rfl) (by kernel_rfl) (by kernel_rfl) (show Extern.find Tryz.f193 = some Extern.MathFloatBits.float64frombits by kernel_rfl)]
  rfl
theorem x193b (w : World) : (callFunc 193 #[.int .u64 4603804719079489536]).run Tryz.prog w = .ok (.value (.float .f64 4603804719079489536)) w := by
  rw [run_callFunc_extern Tryz.func193 (by kernel_rfl) (by kernel_rfl) (by kernel_rfl) (show Extern.find Tryz.f193 = some Extern.MathFloatBits.float64frombits by kernel_rfl)]
  rfl
set_option maxHeartbeats 400000 in
theorem Abs_c (w : World) : Calls Tryz.prog 301 #[.float .f64 4621819117588971520] w fun e w' => e = .returned (.float .f64 4621819117588971520) ∧ w = w' := by
  have h := fun w => x299 w
  have h2 := fun w => x193a w
  have h3 : bits .andNot .u64 4621819117588971520 9223372036854775808 = 4621819117588971520 := by decide +kernel
  go_enter Tryz.func301, Tryz.ntmps301
  go_wp2_with fail
  go_ret
  exact ⟨rfl, rfl⟩
theorem fgtr (w : World) : (binOp .gtr 193 (.float .f64 4621819117588971520) (.float .f64 9218868437227405311)).run Tryz.prog w = .ok (.bool false) w := by kernel_rfl
theorem flss (w : World) : (binOp .lss 193 (.float .f64 4621819117588971520) (.float .f64 4503599627370496)).run Tryz.prog w = .ok (.bool false) w := by kernel_rfl
theorem fneq (w : World) : (binOp .neq 193 (.float .f64 4621819117588971520) (.float .f64 4621819117588971520)).run Tryz.prog w = .ok (.bool false) w := by kernel_rfl
theorem feq0 (w : World) : (binOp .eql 193 (.float .f64 4621819117588971520) (.float .f64 0)).run Tryz.prog w = .ok (.bool false) w := by kernel_rfl
theorem feqh (w : World) : (binOp .eql 193 (.float .f64 4603804719079489536) (.float .f64 4602678819172646912)).run Tryz.prog w = .ok (.bool false) w := by kernel_rfl
set_option maxHeartbeats 400000 in
theorem IsInf_c (w : World) : Calls Tryz.prog 296 #[.float .f64 4621819117588971520, .int .i64 0] w fun e w' => e = .returned (.bool false) ∧ w = w' := by
  have h := fun w => fgtr w
  go_enter Tryz.func296, Tryz.ntmps296
  go_wp2_with fail
  refine (Abs_c _).mono ?_
  rintro e w' ⟨rfl, rfl⟩
  go_wp2_with fail
  go_ret
  exact ⟨rfl, rfl⟩
set_option maxHeartbeats 400000 in
theorem IsNaN_c (w : World) : Calls Tryz.prog 297 #[.float .f64 4621819117588971520] w fun e w' => e = .returned (.bool false) ∧ w = w' := by
  have h := fun w => fneq w
  go_enter Tryz.func297, Tryz.ntmps297
  go_wp2_with fail
  go_ret
  exact ⟨rfl, rfl⟩
set_option maxHeartbeats 400000 in
theorem normalize_c (w : World) : Calls Tryz.prog 298 #[.float .f64 4621819117588971520] w fun e w' => e = .returned (.tuple #[.float .f64 4621819117588971520, .int .i64 0]) ∧ w = w' := by
  have h := fun w => flss w
  go_enter Tryz.func298, Tryz.ntmps298
  go_wp2_with fail
  refine (Abs_c _).mono ?_
  rintro e w' ⟨rfl, rfl⟩
  go_wp2_with fail
  go_ret2
  exact ⟨rfl, rfl⟩
set_option maxHeartbeats 400000 in
theorem frexp_c (w : World) : Calls Tryz.prog 293 #[.float .f64 4621819117588971520] w fun e w' => e = .returned (.tuple #[.float .f64 4603804719079489536, .int .i64 4]) ∧ w = w' := by
  have h := fun w => feq0 w
  have h1 := fun w => x299 w
  have h2 := fun w => x193b w
  have h3 : bits .and .u64 1026 2047 = 1026 := by decide +kernel
  have h4 : bits .andNot .u64 4621819117588971520 9218868437227405312 = 1125899906842624 := by decide +kernel
  have h5 : bits .or .u64 1125899906842624 4602678819172646912 = 4603804719079489536 := by decide +kernel
  go_enter Tryz.func293, Tryz.ntmps293
  go_wp2_with fail
  refine (IsInf_c _).mono ?_
  rintro e w' ⟨rfl, rfl⟩
  go_wp2_with fail
  refine (IsNaN_c _).mono ?_
  rintro e w' ⟨rfl, rfl⟩
  go_wp2_with fail
  refine (normalize_c _).mono ?_
  rintro e w' ⟨rfl, rfl⟩
  go_wp2_with fail
  go_ret2
  exact ⟨rfl, rfl⟩
set_option maxHeartbeats 400000 in
theorem Frexp_c (w : World) : Calls Tryz.prog 289 #[.float .f64 4621819117588971520] w fun e w' => e = .returned (.tuple #[.float .f64 4603804719079489536, .int .i64 4]) ∧ w = w' := by
  go_enter Tryz.func289, Tryz.ntmps289
  go_wp2_with fail
  refine (frexp_c _).mono ?_
  rintro e w' ⟨rfl, rfl⟩
  go_wp2_with fail
  go_ret2
  exact ⟨rfl, rfl⟩
theorem fmul (w : World) : (binOp .mul 193 (.float .f64 13825510489450817230) (.float .f64 4609176140021203710)).run Tryz.prog w = .ok (.float .f64 13827654785158443579) w := by kernel_rfl
theorem fadd (w : World) : (binOp .add 193 (.float .f64 13827654785158443579) (.float .f64 4616189618054758400)).run Tryz.prog w = .ok (.float .f64 4614662735865160561) w := by kernel_rfl
theorem fcv4 (w : World) : (convert 3 193 (.int .i64 4)).run Tryz.prog w = .ok (.float .f64 4616189618054758400) w := by kernel_rfl
theorem fcv10 (w : World) : (convert 3 193 (.int .i64 10)).run Tryz.prog w = .ok (.float .f64 4621819117588971520) w := by kernel_rfl
set_option maxHeartbeats 400000 in
theorem log2_c (w : World) : Calls Tryz.prog 285 #[.float .f64 4621819117588971520] w fun e w' => e = .returned (.float .f64 4614662735865160561) ∧ w = w' := by
  have h := fun w => feqh w
  have h2 := fun w => fmul w
  have h3 := fun w => fadd w
  have h4 := fun w => fcv4 w
  go_enter Tryz.func285, Tryz.ntmps285
  go_wp2_with fail
  refine (Frexp_c _).mono ?_
  rintro e w' ⟨rfl, rfl⟩
  go_wp2_with fail
  refine (Log_c _).mono ?_
  rintro e w' ⟨rfl, rfl⟩
  go_wp2_with fail
  go_ret
  exact ⟨rfl, rfl⟩
set_option maxHeartbeats 400000 in
theorem Log2_c (w : World) : Calls Tryz.prog 262 #[.float .f64 4621819117588971520] w fun e w' => e = .returned (.float .f64 4614662735865160561) ∧ w = w' := by
  go_enter Tryz.func262, Tryz.ntmps262
  go_wp2_with fail
  refine (log2_c _).mono ?_
  rintro e w' ⟨rfl, rfl⟩
  go_wp2_with fail
  go_ret
  exact ⟨rfl, rfl⟩
end Go.Proofs.YtjebnpkebccffaaGreatDoor
namespace Go.Proofs.YtjebnpkebccffaaGreatDoor
open Go.RowKit
theorem bits_or (a b : Nat) (ha : a < 18446744073709551616) (hb : b < 18446744073709551616) : bits .or .u64 (a : Int) (b : Int) = ((a ||| b : Nat) : Int) := by
  have h1 : (BitVec.ofInt 64 (a : Int)).toNat = a := by rw [BitVec.ofInt_natCast, BitVec.toNat_ofNat]; exact Nat.mod_eq_of_lt (by omega)
  have h2 : (BitVec.ofInt 64 (b : Int)).toNat = b := by rw [BitVec.ofInt_natCast, BitVec.toNat_ofNat]; exact Nat.mod_eq_of_lt (by omega)
  show IntKind.u64.wrap ((BitVec.ofInt 64 (a : Int) ||| BitVec.ofInt 64 (b : Int)).toNat : Int) = _
  have h3 : a ||| b < 2 ^ 64 := Nat.or_lt_two_pow (by omega) (by omega)
  rw [BitVec.toNat_or, h1, h2, IntKind.wrap_u64]
  omega
theorem aux_lt : ∀ f n, n < 2 ^ f → n < 2 ^ Lib.bitLenAux f n := by
  intro f
  induction f with
  | zero => intro n h; simpa [Lib.bitLenAux] using h
  | succ f ih =>
    intro n h
    unfold Lib.bitLenAux
    split
    · omega
    · have := ih (n / 2) (by rw [Nat.pow_succ] at h; omega)
      rw [Nat.pow_add, Nat.pow_one]
      omega
theorem aux_le : ∀ f n L, n < 2 ^ L → Lib.bitLenAux f n ≤ L := by
  intro f
  induction f with
  | zero => intro n L h; exact Nat.zero_le _
  | succ f ih =>
    intro n L h
    unfold Lib.bitLenAux
    split
    · omega
    · cases L with
      | zero => simp at h; omega
      | succ L => have := ih (n / 2) L (by rw [Nat.pow_succ] at h; omega); omega
theorem bl_or {x : Nat} (s : Nat) (S : Int) (hS : (s : Int) = S) (h : x < 18446744073709551616) : ∃ y, y < 18446744073709551616 ∧ Lib.bitLen y = Lib.bitLen x ∧ bits .or .u64 (x : Int) ((x : Int) / S) = (y : Int) := by
  rw [← hS, ← Int.natCast_ediv]
  have h1 : x / s ≤ x := Nat.div_le_self _ _
  have h2 : x ||| x / s < 2 ^ Lib.bitLen x := Nat.or_lt_two_pow (aux_lt 64 x (by omega)) (Nat.lt_of_le_of_lt h1 (aux_lt 64 x (by omega)))
  have h3 : x ||| x / s < 2 ^ 64 := Nat.or_lt_two_pow (by omega) (by omega)
  refine ⟨x ||| x / s, by omega, Nat.le_antisymm (aux_le 64 _ _ h2) (aux_le 64 _ _ (Nat.lt_of_le_of_lt Nat.left_le_or (aux_lt 64 _ (by omega)))), bits_or _ _ h (by omega)⟩
def nbits (n : Nat) : Nat := if n = 0 then 0 else ((dig n).length - 1) * 64 + Lib.bitLen ((dig n).getD ((dig n).length - 1) 0)
set_option maxHeartbeats 400000 in
theorem bitLen_any (v : Value) (b : Option Nat) (n : Nat) (w : World) (hv : NatAt w v n b) (h0 : n ≠ 0) (hn : Sm n) :
    Calls Tryz.prog 261 #[v] w fun e w' => e = .returned (.int .i64 ((nbits n : Nat) : Int)) ∧ w = w' := by
  obtain ⟨k, cs, rfl, rfl, hk, hl, hp, hs, hh⟩ := has_val hv h0
  have hpos := dig_len_pos h0
  have hlen : (dig n).length ≤ 100000 := hn
  have hnb : nbits n = ((dig n).length - 1) * 64 + Lib.bitLen ((dig n).getD ((dig n).length - 1) 0) := by unfold nbits; rw [if_neg h0]
  have c1 : w.cell? ⟨k, (dig n).length - 1, none⟩ = some (.int .u64 (((dig n).getD ((dig n).length - 1) 0 : Nat) : Int)) := by
    rw [cell_of hk]
    have := hh ((dig n).length - 1) (by omega)
    rwa [Nat.zero_add] at this
  have hx : (dig n).getD ((dig n).length - 1) 0 < B64 := getD_lt (dig_lt n) _
  rw [hnb]
  generalize (dig n).getD ((dig n).length - 1) 0 = x at *
  generalize (dig n).length = L at *
  obtain ⟨m, rfl⟩ : ∃ m, L = m + 1 := ⟨L - 1, by omega⟩
  simp only [Nat.add_sub_cancel] at *
  have hx : x < 18446744073709551616 := hx
  obtain ⟨y1, l1, b1, e1⟩ := bl_or 2 2 rfl hx
  obtain ⟨y2, l2, b2, e2⟩ := bl_or 4 4 rfl l1
  obtain ⟨y3, l3, b3, e3⟩ := bl_or 16 16 rfl l2
  obtain ⟨y4, l4, b4, e4⟩ := bl_or 256 256 rfl l3
  obtain ⟨y5, l5, b5, e5⟩ := bl_or 65536 65536 rfl l4
  obtain ⟨y6, l6, b6, e6⟩ := bl_or 4294967296 4294967296 rfl l5
  have hb : Lib.bitLen y6 = Lib.bitLen x := by rw [b6, b5, b4, b3, b2, b1]
  have hl6 := (Tryz.bits_Len (y6 : Int) w (by omega) (by omega))
  rw [Int.toNat_natCast, hb] at hl6
  have HL := Lib.hid hl6
  have e6' : bits .or .u64 (y5 : Int) ((y5 : Int) / 65536 / 65536) = (y6 : Int) := by rw [← e6]; congr 1; omega
  clear e6
  clear hl6 hb
  clear b1 b2 b3 b4 b5 b6 hk hh hv hnb
  have hq : Lib.bitLen x ≤ 64 := aux_le 64 x 64 (by omega)
  generalize Lib.bitLen x = q at *
  go_enter Tryz.func261, Tryz.ntmps261
  go_wp2_with fail
  refine HL.out.mono ?_
  rintro e w1 ⟨rfl, rfl⟩
  go_wp2_with fail
  go_ret
  exact ⟨by simp, rfl⟩
end Go.Proofs.YtjebnpkebccffaaGreatDoor
namespace Go.Proofs.YtjebnpkebccffaaGreatDoor
open Go.RowKit
def tabOK (nb : Nat) : Bool :=
  match FloatKind.f64.format.div (FloatKind.f64.nearest (nb : Int)) 4614662735865160561 with
  | some q => match (FloatKind.f64.decode q).toInt .zero with
    | some k => decide (0 ≤ k) && decide (k ≤ 200) && decide (2 ^ nb ≤ 10 ^ (k.toNat + 1))
    | none => false
  | none => false
theorem tabOK_all : (List.range 513).all tabOK = true := by decide +kernel
theorem tab_facts (nb : Nat) (h : nb ≤ 512) : ∃ q k, FloatKind.f64.format.div (FloatKind.f64.nearest (nb : Int)) 4614662735865160561 = some q ∧ (FloatKind.f64.decode q).toInt .zero = some ((k : Nat) : Int) ∧ k ≤ 200 ∧ 2 ^ nb ≤ 10 ^ (k + 1) := by
  have h0 := List.all_eq_true.1 tabOK_all nb (List.mem_range.2 (by omega))
  unfold tabOK at h0
  split at h0
  · rename_i q hq
    split at h0
    · rename_i k hk
      simp only [Bool.and_eq_true, decide_eq_true_eq] at h0
      obtain ⟨⟨h1, h2⟩, h3⟩ := h0
      exact ⟨q, k.toNat, hq, by rw [hk]; congr 1; omega, by omega, h3⟩
    · cases h0
  · cases h0
theorem cv_float (n : Int) (w : World) : (convert 3 193 (.int .i64 n)).run Tryz.prog w = .ok (.float .f64 (FloatKind.f64.nearest n)) w := by kernel_rfl
theorem quo_float (a b q : Nat) (h : FloatKind.f64.format.div a b = some q) (w : World) : (binOp .quo 193 (.float .f64 a) (.float .f64 b)).run Tryz.prog w = .ok (.float .f64 q) w := by
  have e : (binOp .quo 193 (.float .f64 a) (.float .f64 b)).run Tryz.prog w = (Op.floatArith .quo .f64 a b).run Tryz.prog w := by kernel_rfl
  rw [e]
  simp [Op.floatArith, h]
theorem cv_int (q k : Nat) (h : (FloatKind.f64.decode q).toInt .zero = some (k : Int)) (hk : k ≤ 200) (w : World) : (convert 193 3 (.float .f64 q)).run Tryz.prog w = .ok (.int .i64 (k : Int)) w := by
  have e : (convert 193 3 (.float .f64 q)).run Tryz.prog w = (Conv.floatToInt .f64 q .i64).run Tryz.prog w := by kernel_rfl
  rw [e]
  unfold Conv.floatToInt
  rw [h]
  have h1 : IntKind.i64.min ≤ (k : Int) ∧ (k : Int) ≤ IntKind.i64.max := by
    have a : IntKind.i64.min = -9223372036854775808 := by decide
    have b : IntKind.i64.max = 9223372036854775807 := by decide
    rw [a, b]; omega
  simp only [h1, and_self, if_true]
  rfl
theorem nbits_lt (n : Nat) : n < 2 ^ nbits n := by
  by_cases h0 : n = 0
  · subst h0; simp [nbits]
  · unfold nbits
    rw [if_neg h0]
    have hl := dig_len_pos h0
    obtain ⟨l, x, e⟩ : ∃ l x, dig n = l ++ [x] := ⟨(dig n).dropLast, (dig n).getLast (dig_ne h0), (List.dropLast_concat_getLast (dig_ne h0)).symm⟩
    have hv := val_dig n
    have hlt := dig_lt n
    rw [e] at hv hlt ⊢
    have e2 : (l ++ [x]).getD ((l ++ [x]).length - 1) 0 = x := by simp
    rw [e2]
    simp only [List.length_append, List.length_cons, List.length_nil, Nat.zero_add, Nat.add_sub_cancel]
    have hx : x < 2 ^ Lib.bitLen x := aux_lt 64 x (by have := hlt x (by simp); unfold B64 at this; omega)
    have h1 : val l < B64 ^ l.length := val_lt (fun y hy => hlt y (by simp [hy]))
    rw [val_append, val_cons, val_nil, Nat.mul_zero, Nat.add_zero] at hv
    have h2 : (x + 1) * B64 ^ l.length ≤ 2 ^ Lib.bitLen x * B64 ^ l.length := Nat.mul_le_mul_right _ hx
    have h3 : B64 ^ l.length = 2 ^ (l.length * 64) := by rw [Nat.mul_comm, Nat.pow_mul]; rfl
    rw [Nat.pow_add, ← h3, Nat.mul_comm (B64 ^ l.length)]
    rw [Nat.add_mul, Nat.one_mul] at h2
    have h4 : B64 ^ l.length * x = x * B64 ^ l.length := Nat.mul_comm _ _
    generalize B64 ^ l.length = P at *
    omega
theorem nbits_le (n : Nat) : nbits n ≤ (dig n).length * 64 := by
  unfold nbits
  split
  · omega
  · rename_i h0
    have hl := dig_len_pos h0
    have : Lib.bitLen ((dig n).getD ((dig n).length - 1) 0) ≤ 64 := aux_le 64 _ 64 (by have := getD_lt (dig_lt n) ((dig n).length - 1); unfold B64 at this; omega)
    omega
end Go.Proofs.YtjebnpkebccffaaGreatDoor
namespace Go.Proofs.YtjebnpkebccffaaGreatDoor
open Go.RowKit
def mpOK (i : Nat) : Bool := decide (decide (((10 ^ (i + 1) : Nat) : Int) ≤ 1844674407370955161) = true) && decide (IntKind.u64.wrap (((10 ^ (i + 1) : Nat) : Int) * 10) = ((10 ^ (i + 2) : Nat) : Int))
theorem mpOK_all : (List.range 18).all mpOK = true := by decide +kernel
set_option maxHeartbeats 400000 in
theorem maxPow_ten (w : World) : Calls Tryz.prog 257 #[.int .u64 10] w fun e w' => e = .returned (.tuple #[.int .u64 10000000000000000000, .int .i64 19]) ∧ w = w' := by
  go_enter Tryz.func257, Tryz.ntmps257
  go_wp2_with fail
  go_loop [2, 3] (fun p n => ∃ i : Nat, i ≤ 18 ∧ p = .int .u64 ((10 ^ (i + 1) : Nat) : Int) ∧ n = .int .i64 ((i : Int) + 1)) (fun _ n => 19 - (intOf n).toNat)
  case atStart => exact ⟨0, by omega, rfl, rfl⟩
  case round =>
    obtain ⟨i, hi, rfl, rfl⟩ := hrel
    by_cases h : i < 18
    · have h0 := List.all_eq_true.1 mpOK_all i (List.mem_range.2 h)
      unfold mpOK at h0
      simp only [Bool.and_eq_true] at h0
      obtain ⟨h1, h2⟩ := h0
      have h1 := of_decide_eq_true h1
      have h2 := of_decide_eq_true h2
      have hp : ∃ P : Nat, 10 ^ (i + 1) = P := ⟨_, rfl⟩
      have hq : ∃ Q : Nat, 10 ^ (i + 2) = Q := ⟨_, rfl⟩
      obtain ⟨P, hP⟩ := hp
      obtain ⟨Q, hQ⟩ := hq
      rw [hP] at h1 h2 ⊢
      rw [hQ] at h2
      have HQ := Lib.hid hQ
      clear hP hQ
      go_wp2_with fail
      go_round
      case rel => exact ⟨i + 1, by omega, by rw [HQ.out], by go_num⟩
      case measure => simp [intOf]; omega
    · have : i = 18 := by omega
      subst this
      go_wp2_with fail
      go_ret2
      exact ⟨rfl, rfl⟩
def Leaf (w : World) : Prop := w.cell? ⟨19, 0, none⟩ = some (.int .i64 8)
set_option maxHeartbeats 400000 in
theorem divisors_small (s : Value) (m : Nat) (b n bb : Value) (w : World) (hm : m ≤ 8) (hL : Leaf w) :
    Calls Tryz.prog 263 #[s, .int .i64 (m : Int), b, n, bb] w fun e w' => e = .returned (.slice none 0 0) ∧ w = w' := by
  have c : w.cell? ⟨19, 0, none⟩ = some (.int .i64 8) := hL
  have g : decide ((m : Int) ≤ 8) = true := decT (by omega)
  go_enter Tryz.func263, Tryz.ntmps263
  go_wp2_with fail
  go_ret
  exact ⟨rfl, rfl⟩
end Go.Proofs.YtjebnpkebccffaaGreatDoor
namespace Go.Proofs.YtjebnpkebccffaaGreatDoor
open Go.RowKit
def dgt (n L p : Nat) : Nat := n / 10 ^ (L - 1 - p) % 10
def Digs (w : World) (s n L i : Nat) : Prop :=
  ∃ cs, w.heap[s]? = some (.cells cs 5 (0, 0)) ∧ cs.size = L ∧ ∀ p, i ≤ p → p < L → cs[p]? = some (.int .u8 ((48 + dgt n L p : Nat) : Int))
theorem Digs.move {w w' : World} {s n L i : Nat} (h : Digs w s n L i) (hk : w'.heap[s]? = w.heap[s]?) : Digs w' s n L i := by
  obtain ⟨cs, h1, h2, h3⟩ := h
  exact ⟨cs, hk.trans h1, h2, h3⟩
theorem Digs.put {w : World} {s n L i : Nat} (h : Digs w s n L (i + 1)) (hi : i < L) (d : Nat) (hd : d = dgt n L i) : Digs (w.setCell ⟨s, i, none⟩ (.int .u8 ((48 + d : Nat) : Int))) s n L i := by
  obtain ⟨cs, h1, h2, h3⟩ := h
  refine ⟨_, heap_set_same h1 i _, by simp [h2], fun p hp hl => ?_⟩
  rw [Array.getElem?_setIfInBounds]
  by_cases e : i = p
  · subst e; simp [h2, hi, hd]
  · rw [if_neg e]; exact h3 p (by omega) hl
theorem Digs.cell {w : World} {s n L i : Nat} (h : Digs w s n L i) (p : Nat) (hp : p < L) : (∃ v, w.cell? ⟨s, p, none⟩ = some v) ∧ w.frozen? ⟨s, p, none⟩ = false := by
  obtain ⟨cs, h1, h2, h3⟩ := h
  exact ⟨⟨cs[p], by rw [cell_of h1]; exact Array.getElem?_eq_getElem (by omega)⟩, frozen_of h1 p⟩
theorem Digs.cell_lt {w : World} {s n L i : Nat} (h : Digs w s n L i) (p : Nat) (hp : p < L) : (∃ v, w.cell? ⟨s, p, none⟩ = some v) ∧ w.frozen? ⟨s, p, none⟩ = false := h.cell p hp
theorem low_digit (m j : Nat) (hj : j < 19) : m % 10000000000000000000 / 10 ^ j % 10 = m / 10 ^ j % 10 := by
  have e : (10000000000000000000 : Nat) = 10 ^ j * 10 ^ (19 - j) := by rw [← Nat.pow_add, show j + (19 - j) = 19 by omega]
  rw [e, Nat.mod_mul_right_div_self]
  exact Nat.mod_mod_of_dvd _ ⟨10 ^ (18 - j), by rw [← Nat.pow_succ']; congr 1; omega⟩
theorem dgt_at (n L i j : Nat) (hij : j < i) (hi : i ≤ L) : dgt n L (i - j - 1) = n / 10 ^ (L - i) / 10 ^ j % 10 := by
  unfold dgt
  rw [Nat.div_div_eq_div_mul, ← Nat.pow_add, show L - 1 - (i - j - 1) = L - i + j by omega]
def CState (w0 : World) (n L s : Nat) (b0 : Option Nat) (i : Nat) (q : Nat) (v : Value) (wr : World) : Prop :=
  ∃ b', NatAt wr v q b' ∧ Digs wr s n L i ∧ Kept (fun k => k = s ∨ b0 = some k) w0 wr ∧ Own w0 b0 b' ∧ b' ≠ some s
theorem own_trans {w w1 : World} {b b1 b2 : Option Nat} (h : Own w b b1) (k : Own w1 b1 b2) (hs : w.heap.size ≤ w1.heap.size) : Own w b b2 := by
  rcases k with k | ⟨j, hj, hjs⟩
  · rw [k]; exact h
  · exact Or.inr ⟨j, hj, by omega⟩
theorem cstate_div {w0 wr w1 : World} {n L s i q q' : Nat} {b0 b' b1 : Option Nat} {v v' : Value} (h : NatAt wr v q b' ∧ Digs wr s n L i ∧ Kept (fun k => k = s ∨ b0 = some k) w0 wr ∧ Own w0 b0 b' ∧ b' ≠ some s) (hs : s < w0.heap.size)
    (hd : NatAt w1 v' q' b1 ∧ Kept (fun k => b' = some k) wr w1 ∧ Own wr b' b1) : CState w0 n L s b0 i q' v' w1 := by
  obtain ⟨h1, h2, h3, h4, h5⟩ := h
  obtain ⟨d1, d2, d3⟩ := hd
  refine ⟨b1, d1, h2.move (d2.block s (by have := h3.size; omega) h5), h3.trans d2 (fun _ _ h => h) (fun k hk hb => ?_), own_trans h4 d3 h3.size, own_ne d3 (by have := h3.size; omega) h5⟩
  rcases h4 with h4 | ⟨j, hj, hjs⟩
  · exact Or.inr (by rw [← h4, hb])
  · rw [hj] at hb; injection hb with hb; omega
theorem CState.put {w0 wr : World} {n L s i q : Nat} {b0 : Option Nat} {v : Value} (h : CState w0 n L s b0 (i + 1) q v wr) (hi : i < L) (d : Nat) (hd : d = dgt n L i) : CState w0 n L s b0 i q v (wr.setCell ⟨s, i, none⟩ (.int .u8 ((48 + d : Nat) : Int))) := by
  obtain ⟨b', h1, h2, h3, h4, h5⟩ := h
  refine ⟨b', h1.move (fun k hk => heap_set_ne (by intro e; subst e; exact h5 hk)), h2.put hi d hd, h3.setCell ⟨s, i, none⟩ _ (fun _ => Or.inl rfl), h4, h5⟩
set_option maxRecDepth 100000 in
set_option maxHeartbeats 1000000 in
theorem convertWords_ten (vq stk : Value) (bq : Option Nat) (n L sb sz : Nat) (w : World) (hq : NatAt w vq n bq) (hd0 : Digs w sb n L L) (hbs : bq ≠ some sb) (hL1 : L ≤ 1000000) (hn : n < 10 ^ L)
    (hdiv : ∀ (W : World) (v : Value) (b : Option Nat) (m : Nat), m ≤ n → NatAt W v m b → Calls Tryz.prog 223 #[v, v, .int .u64 10000000000000000000] W (DivW W b (quoN m 10000000000000000000) (remN m 10000000000000000000))) :
    Calls Tryz.prog 264 #[vq, stk, .slice (some ⟨sb, 0, none⟩) L sz, .int .u64 10, .int .i64 19, .int .u64 10000000000000000000, .slice none 0 0] w fun e w' =>
      e = .returned (.tuple #[]) ∧ Digs w' sb n L 0 ∧ Kept (fun k => k = sb ∨ bq = some k) w w' := by
  have hs : sb < w.heap.size := by obtain ⟨cs, h, _⟩ := hd0; exact heap_lt h
  have H0 : Hid (CState w n L sb bq L n vq w) := ⟨bq, hq, hd0, Kept.refl _ _, Or.inl rfl, hbs⟩
  have HD := Lib.hid hdiv
  have HN := Lib.hid hn
  clear hq hd0 hbs hdiv hn
  go_enter Tryz.func264, Tryz.ntmps264
  go_wp2_with fail
  go_loopw [0, 19, 20, 21] (fun v i _ _ wr => ∃ i' : Nat, i' ≤ L ∧ i = .int .i64 (i' : Int) ∧ CState w n L sb bq i' (n / 10 ^ (L - i')) v wr) (fun _ i _ _ _ => (intOf i).toNat)
  case atStart => exact ⟨L, Nat.le_refl _, rfl, by rw [Nat.sub_self, Nat.pow_zero, Nat.div_one]; exact H0.out⟩
  case round =>
    obtain ⟨i, hi, rfl, hc⟩ := hrel
    have HC := Lib.hid hc
    have hc' := hc
    obtain ⟨b1, hnat, hrest⟩ := hc'
    obtain ⟨aq, cq, rfl⟩ := nat_slice hnat
    generalize hm : n / 10 ^ (L - i) = m at *
    have HM := Lib.hid hm
    have HNAT := Lib.hid hnat
    have HREST := Lib.hid hrest
    clear hc hm hnat hrest
    by_cases hm0 : m = 0
    · have e0 : (dig m).length = 0 := by rw [hm0, dig_zero]; rfl
      rw [e0]
      go_wp2_with fail
      clear e0
      go_loopw [19] (fun i _wr => ∃ i' : Nat, i' ≤ L ∧ i = .int .i64 (i' : Int) ∧ n / 10 ^ (L - i') = 0 ∧ ∃ v, CState w n L sb bq i' 0 v _wr) (fun i _ => (intOf i).toNat)
      case atStart => exact ⟨i, hi, rfl, by rw [HM.out]; exact hm0, _, by rw [← hm0]; exact HC.out⟩
      case round =>
        obtain ⟨i2, hi2, rfl, hz, v2, hc2⟩ := hrel
        by_cases hp : i2 = 0
        · subst hp
          go_wp2_with fail
          go_end0
          exact ⟨rfl, hc2.choose_spec.2.1, hc2.choose_spec.2.2.1⟩
        · obtain ⟨i3, rfl⟩ : ∃ i3, i2 = i3 + 1 := ⟨i2 - 1, by omega⟩
          obtain ⟨⟨cv, c1⟩, f1⟩ := hc2.choose_spec.2.1.cell_lt i3 (by omega)
          have HC2 := Lib.hid hc2
          have HZ := Lib.hid hz
          clear hc2 hz
          go_wp2_with fail
          go_roundw
          case rel =>
            have hz' : n / 10 ^ (L - i3) = 0 := by
              rw [show L - i3 = (L - (i3 + 1)) + 1 by omega, Nat.pow_succ, ← Nat.div_div_eq_div_mul, HZ.out]
            refine ⟨i3, by omega, rfl, hz', v2, HC2.out.put (by omega) 0 ?_⟩
            have := dgt_at n L (i3 + 1) 0 (by omega) (by omega)
            rw [HZ.out] at this
            simp at this
            rw [this]
          case measure => simp [intOf] <;> omega
    · have hpos := dig_len_pos hm0
      have hi0 : 0 < i := by
        rcases Nat.eq_zero_or_pos i with h | h
        · subst h
          exfalso
          rw [Nat.sub_zero, Nat.div_eq_of_lt HN.out] at HM
          exact hm0 HM.out.symm
        · exact h
      generalize hL : (dig m).length = ℓ at *
      have HL := Lib.hid hL
      clear hL
      go_wp2_with fail
      refine (HD.out wr _ b1 m (by rw [← HM.out]; exact Nat.div_le_self _ _) HNAT.out).mono ?_
      rintro e w1 ⟨v1, b2, rfl, h1, h2, h3⟩
      have HC1 : Hid (CState w n L sb bq i (quoN m 10000000000000000000) v1 w1) := cstate_div ⟨HNAT.out, HREST.out⟩ hs ⟨h1, h2, h3⟩
      clear h1 h2 h3
      go_wp2_with fail
      go_loopw [19, 20, 21] (fun i' r j wr => ∃ j' : Nat, j' ≤ 19 ∧ j' ≤ i ∧ i' = .int .i64 ((i - j' : Nat) : Int) ∧ r = .int .u64 ((remN m 10000000000000000000 / 10 ^ j' : Nat) : Int) ∧ j = .int .i64 (j' : Int) ∧ CState w n L sb bq (i - j') (quoN m 10000000000000000000) v1 wr) (fun i' _ _ _ => (intOf i').toNat)
      case atStart => exact ⟨0, by omega, by omega, rfl, by rw [Nat.pow_zero, Nat.div_one], rfl, HC1.out⟩
      case round =>
        obtain ⟨j, hj, hji, rfl, rfl, rfl, hc⟩ := hrel
        by_cases hgo : j < 19 ∧ j < i
        · obtain ⟨hj1, hj2⟩ := hgo
          obtain ⟨k, hk⟩ : ∃ k, i - j = k + 1 := ⟨i - j - 1, by omega⟩
          rw [hk] at hc ⊢
          have hdg : ∀ wr, CState w n L sb bq (k + 1) (quoN m 10000000000000000000) v1 wr → (∃ v, wr.cell? ⟨sb, k, none⟩ = some v) ∧ wr.frozen? ⟨sb, k, none⟩ = false := fun wr h => h.choose_spec.2.1.cell_lt k (by omega)
          obtain ⟨⟨cv, c1⟩, f1⟩ := hdg _ hc
          have hr : remN m 10000000000000000000 / 10 ^ j < 10000000000000000000 := Nat.lt_of_le_of_lt (Nat.div_le_self _ _) (Nat.mod_lt _ (by decide))
          have hdig : remN m 10000000000000000000 / 10 ^ j % 10 = dgt n L k := by
            have e1 := low_digit m j hj1
            have e2 := dgt_at n L i j hj2 hi
            rw [HM.out, show i - j - 1 = k by omega, ← e1] at e2
            exact e2.symm
          have hnx : remN m 10000000000000000000 / 10 ^ j / 10 = remN m 10000000000000000000 / 10 ^ (j + 1) := by rw [Nat.div_div_eq_div_mul, Nat.pow_succ]
          generalize remN m 10000000000000000000 / 10 ^ j = r at *
          have HC2 := Lib.hid hc
          have HDIG := Lib.hid hdig
          have HNX := Lib.hid hnx
          have g1 : decide ((0 : Int) < ((k : Int) + 1)) = true := decT (by omega)
          have q1 : IntKind.u64.wrap ((r : Int) / 10 * 10) = ((r / 10 * 10 : Nat) : Int) := by rw [IntKind.wrap_u64]; omega
          have q2 : IntKind.u64.wrap ((r : Int) - ((r / 10 * 10 : Nat) : Int)) = ((r % 10 : Nat) : Int) := by rw [IntKind.wrap_u64]; omega
          have q3 : IntKind.u8.wrap (((r % 10 : Nat) : Int)) = ((r % 10 : Nat) : Int) := by rw [IntKind.wrap_u8]; omega
          have q4 : IntKind.u8.wrap (48 + ((r % 10 : Nat) : Int)) = ((48 + r % 10 : Nat) : Int) := by rw [IntKind.wrap_u8]; omega
          clear hc hdig hnx hdg hji
          go_wp2_with fail
          have e : (48 + ((r : Int) - (r : Int) / 10 * 10)) = ((48 + r % 10 : Nat) : Int) := by omega
          rw [e]
          refine ⟨⟨j + 1, by omega, by omega, by rw [show i - (j + 1) = k by omega], by rw [← HNX.out, Int.natCast_ediv]; rfl, by rw [Int.natCast_add]; rfl, ?_⟩, by simp [intOf]⟩
          rw [show i - (j + 1) = k by omega]
          exact HC2.out.put (by omega) _ HDIG.out
        · have hfin : (quoN m 10000000000000000000 = n / 10 ^ (L - (i - j))) ∧ 0 < j := by
            unfold quoN
            rcases Nat.lt_or_ge j 19 with h | h
            · have hji2 : j = i := by omega
              subst hji2
              refine ⟨?_, hi0⟩
              rw [Nat.sub_self, Nat.sub_zero, Nat.div_eq_of_lt HN.out, ← HM.out, Nat.div_div_eq_div_mul]
              refine Nat.div_eq_of_lt (Nat.lt_of_lt_of_le HN.out ?_)
              rw [show (10000000000000000000 : Nat) = 10 ^ 19 from by decide, ← Nat.pow_add]
              exact Nat.pow_le_pow_right (by omega) (by omega)
            · have : j = 19 := by omega
              subst this
              refine ⟨?_, by omega⟩
              rw [← HM.out, Nat.div_div_eq_div_mul, show (10000000000000000000 : Nat) = 10 ^ 19 from by decide, ← Nat.pow_add, show L - (i - 19) = L - i + 19 by omega]
          have HF := Lib.hid hfin
          have HC2 := Lib.hid hc
          have HJI := Lib.hid hji
          have fin : ∀ wr', wr' = wr → (∃ i' : Nat, i' ≤ L ∧ Value.int .i64 ((i - j : Nat) : Int) = .int .i64 (i' : Int) ∧ CState w n L sb bq i' (n / 10 ^ (L - i')) v1 wr') ∧ (intOf (.int .i64 ((i - j : Nat) : Int))).toNat < (intOf (.int .i64 (i : Int))).toNat := by
            intro wr' e
            subst e
            exact ⟨⟨i - j, by omega, rfl, by rw [← hfin.1]; exact hc⟩, by simp [intOf]; omega⟩
          have FIN := Lib.hid fin
          clear fin hfin hc hji
          by_cases hj19 : j = 19
          · subst hj19
            generalize remN m 10000000000000000000 / 10 ^ 19 = r at *
            generalize i - 19 = k at *
            go_wp2_with fail
            exact FIN.out _ rfl
          · have hk : i - j = 0 := by have := HJI.out; omega
            rw [hk] at FIN ⊢
            have g1 : decide ((j : Int) < 19) = true := decT (by omega)
            generalize remN m 10000000000000000000 / 10 ^ j = r at *
            go_wp2_with fail
            exact FIN.out _ rfl
end Go.Proofs.YtjebnpkebccffaaGreatDoor
