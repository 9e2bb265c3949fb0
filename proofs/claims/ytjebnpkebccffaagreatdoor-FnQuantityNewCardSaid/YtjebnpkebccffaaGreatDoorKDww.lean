import Derived.Test.YtjebnpkebccffaaGreatDoorKMul
import Derived.Test.YtjebnpkebccffaaGreatDoorKExpn
set_option linter.unusedSimpArgs false
set_option linter.unusedVariables false
set_option linter.unusedSectionVars false
namespace Go.Proofs.YtjebnpkebccffaaGreatDoor
open Go.RowKit
theorem dww_core (B d m x1 x0 : Nat) (hB : 0 < B) (hd2 : B ≤ 2 * d) (hd : d < B) (hm : (B * B - 1) / d = B + m) (h1 : x1 < d) (h0 : x0 < B) :
    ((m * x1 + x0) / B + x1) * d ≤ x1 * B + x0 ∧ x1 * B + x0 < ((m * x1 + x0) / B + x1) * d + B + d ∧ (m * x1 + x0) / B + x1 < B := by
  have hd0 : 0 < d := by omega
  have e1 : (m * x1 + x0) / B + x1 = ((B + m) * x1 + x0) / B := by
    rw [Nat.add_mul, Nat.add_assoc, Nat.mul_comm B x1, Nat.add_comm (x1 * B), Nat.add_mul_div_right _ _ hB]
  rw [e1]
  have hV := Nat.div_add_mod (B * B - 1) d
  have hVm := Nat.mod_lt (B * B - 1) hd0
  rw [hm] at hV
  generalize hVV : B + m = V at *
  have hVB : B ≤ V := by omega
  have hT := Nat.div_add_mod (V * x1 + x0) B
  have hTm := Nat.mod_lt (V * x1 + x0) hB
  generalize (V * x1 + x0) / B = q at *
  generalize (V * x1 + x0) % B = tr at *
  generalize (B * B - 1) % d = vr at *
  have hBB : 1 ≤ B * B := Nat.mul_pos hB hB
  have hVd : d * V + vr + 1 = B * B := by omega
  -- T*d
  have hTd : (B * q + tr) * d = (V * x1 + x0) * d := by rw [hT]
  have f1 : (B * q + tr) * d = B * (q * d) + tr * d := by rw [Nat.add_mul, Nat.mul_assoc]
  have f2 : (V * x1 + x0) * d = (d * V) * x1 + x0 * d := by rw [Nat.add_mul, Nat.mul_comm (V * x1) d, Nat.mul_assoc]
  have f3 : (d * V) * x1 + vr * x1 + x1 = B * (x1 * B) := by
    have : (d * V + vr + 1) * x1 = B * B * x1 := by rw [hVd]
    rw [Nat.add_mul, Nat.add_mul, Nat.one_mul] at this
    rw [this, Nat.mul_assoc, Nat.mul_comm B x1]
  have f4 : x0 * d ≤ x0 * B := Nat.mul_le_mul_left x0 (by omega)
  have f5 : B * (x1 * B + x0) = B * (x1 * B) + x0 * B := by rw [Nat.mul_add, Nat.mul_comm B x0]
  have f6 : vr * x1 + x1 ≤ d * x1 := by
    have : (vr + 1) * x1 ≤ d * x1 := Nat.mul_le_mul_right x1 (by omega)
    rwa [Nat.add_mul, Nat.one_mul] at this
  refine ⟨?_, ?_, ?_⟩
  · refine Nat.le_of_mul_le_mul_left ?_ hB
    show B * (q * d) ≤ B * (x1 * B + x0)
    omega
  · refine Nat.lt_of_mul_lt_mul_left (a := B) ?_
    show B * (x1 * B + x0) < B * (q * d + B + d)
    have g1 : B * (q * d + B + d) = B * (q * d) + B * B + B * d := by rw [Nat.mul_add, Nat.mul_add]
    have g2 : tr * d + d ≤ B * d := by
      have : (tr + 1) * d ≤ B * d := Nat.mul_le_mul_right d (by omega)
      rwa [Nat.add_mul, Nat.one_mul] at this
    have g3 : d * x1 + d ≤ d * d := by
      have : d * (x1 + 1) ≤ d * d := Nat.mul_le_mul_left d (by omega)
      rwa [Nat.mul_add, Nat.mul_one] at this
    have g4 : x0 * B + d * d ≤ x0 * d + B * B := by
      obtain ⟨k, hk⟩ : ∃ k, B = d + k := ⟨B - d, by omega⟩
      have a1 : x0 * k ≤ B * k := Nat.mul_le_mul_right k (by omega)
      have a2 : x0 * B = x0 * d + x0 * k := by rw [hk, Nat.mul_add]
      have a3 : B * B = B * d + B * k := by rw [← Nat.mul_add, ← hk]
      have a4 : d * d ≤ B * d := Nat.mul_le_mul_right d (by omega)
      omega
    omega
  · have g1 : V * x1 + V ≤ V * d := by
      have : V * (x1 + 1) ≤ V * d := Nat.mul_le_mul_left V (by omega)
      rwa [Nat.mul_add, Nat.mul_one] at this
    have g2 : V * d = d * V := Nat.mul_comm _ _
    have g3 : B * q < B * B := by omega
    exact Nat.lt_of_mul_lt_mul_left g3
theorem dww_end {B d q N : Nat} (hd2 : B ≤ 2 * d) (hd : d < B) (h1 : q * d ≤ N) (h2 : N < q * d + B + d) :
    (N - q * d < d → q = N / d ∧ N - q * d = N % d) ∧ (d ≤ N - q * d → N - q * d < 2 * d → q + 1 = N / d ∧ N - q * d - d = N % d) ∧ (2 * d ≤ N - q * d → q + 2 = N / d ∧ N - q * d - d - d = N % d) := by
  have hd0 : 0 < d := by omega
  have key : ∀ (k r : Nat), N = d * (q + k) + r → r < d → q + k = N / d ∧ r = N % d := by
    intro k r e hr
    rw [e, Nat.mul_add_div hd0, Nat.div_eq_of_lt hr, Nat.mul_add_mod, Nat.mod_eq_of_lt hr]
    exact ⟨rfl, rfl⟩
  have e0 : d * q = q * d := Nat.mul_comm _ _
  refine ⟨fun h => ?_, fun h h' => ?_, fun h => ?_⟩
  · have := key 0 (N - q * d) (by rw [Nat.add_zero, e0]; omega) h
    rwa [Nat.add_zero] at this
  · exact key 1 (N - q * d - d) (by rw [Nat.mul_add, e0, Nat.mul_one]; omega) (by omega)
  · exact key 2 (N - q * d - d - d) (by rw [Nat.mul_add, e0]; omega) (by omega)
end Go.Proofs.YtjebnpkebccffaaGreatDoor
namespace Go.Proofs.YtjebnpkebccffaaGreatDoor
open Go.RowKit
theorem lz_ten (w : World) : Calls Tryz.prog 291 #[.int .u64 10000000000000000000] w fun e w' => e = .returned (.int .i64 0) ∧ w = w' := by
  refine (Tryz.bits_LeadingZeros64 10000000000000000000 w (by omega) (by omega)).mono ?_
  rintro e w' ⟨rfl, rfl⟩
  exact ⟨by kernel_rfl, rfl⟩
set_option maxRecDepth 100000 in
set_option maxHeartbeats 4000000 in
theorem bitsDiv64_ten (w : World) : Calls Tryz.prog 288 #[.int .u64 8446744073709551615, .int .u64 18446744073709551615, .int .u64 10000000000000000000] w fun e w' => e = .returned (.tuple #[.int .u64 15581492618384294730, .int .u64 3374607431768211455]) ∧ w = w' := by
  have HL := Lib.hid lz_ten
  have b1 : bits BinOp.and IntKind.u64 10000000000000000000 4294967295 = 2313682944 := by kernel_rfl
  have b2 : bits BinOp.or IntKind.u64 8446744073709551615 0 = 8446744073709551615 := by kernel_rfl
  have b3 : bits BinOp.and IntKind.u64 18446744073709551615 4294967295 = 4294967295 := by kernel_rfl
  go_enter Tryz.func288, Tryz.ntmps288
  go_wp2_with fail
  refine (HL.out _).mono ?_
  rintro e w' ⟨rfl, rfl⟩
  go_wp2_with fail
  obtain ⟨A, hA⟩ : ∃ A : Int, A = 3627848956 := ⟨_, rfl⟩
  obtain ⟨R, hR⟩ : ∃ A : Int, A = 618870799 := ⟨_, rfl⟩
  obtain ⟨A1, hA1⟩ : ∃ A : Int, A = 3627848955 := ⟨_, rfl⟩
  obtain ⟨R1, hR1⟩ : ∃ A : Int, A = 2947177235 := ⟨_, rfl⟩
  obtain ⟨P, hP⟩ : ∃ A : Int, A = 8393692252905406464 := ⟨_, rfl⟩
  obtain ⟨P2, hP2⟩ : ∃ A : Int, A = 2658029842154389504 := ⟨_, rfl⟩
  obtain ⟨P3, hP3⟩ : ∃ A : Int, A = 2658029846449356799 := ⟨_, rfl⟩
  obtain ⟨P4, hP4⟩ : ∃ A : Int, A = 8393692250591723520 := ⟨_, rfl⟩
  obtain ⟨P5, hP5⟩ : ∃ A : Int, A = 12658029839840706560 := ⟨_, rfl⟩
  obtain ⟨P6, hP6⟩ : ∃ A : Int, A = 12658029844135673855 := ⟨_, rfl⟩
  obtain ⟨X1, hX1⟩ : ∃ A : Int, A = 4245213902372601856 := ⟨_, rfl⟩
  obtain ⟨U, hU⟩ : ∃ A : Int, A = 4264337593543950335 := ⟨_, rfl⟩
  have w1 : IntKind.u64.wrap (A * 2313682944) = P := by rw [IntKind.wrap_u64]; omega
  have w2 : IntKind.u64.wrap (4294967296 * R) = P2 := by rw [IntKind.wrap_u64]; omega
  have w3 : IntKind.u64.wrap (P2 + 4294967295) = P3 := by rw [IntKind.wrap_u64]; omega
  have w4 : IntKind.u64.wrap (A1 * 2313682944) = P4 := by rw [IntKind.wrap_u64]; omega
  have w5 : IntKind.u64.wrap (4294967296 * R1) = P5 := by rw [IntKind.wrap_u64]; omega
  have w6 : IntKind.u64.wrap (P5 + 4294967295) = P6 := by rw [IntKind.wrap_u64]; omega
  have w7 : IntKind.u64.wrap (A - 1) = A1 := by rw [IntKind.wrap_u64]; omega
  have w8 : IntKind.u64.wrap (R + 2328306436) = R1 := by rw [IntKind.wrap_u64]; omega
  have w9 : IntKind.u64.wrap (A1 * 10000000000000000000) = X1 := by rw [IntKind.wrap_u64]; omega
  have w10 : IntKind.u64.wrap (8509551495916552191 - X1) = U := by rw [IntKind.wrap_u64]; omega
  have q1 : decide (4294967296 ≤ A) = false := decF (by omega)
  have q2 : decide (4294967296 ≤ A1) = false := decF (by omega)
  have q3 : decide (P3 < P) = true := decT (by omega)
  have q4 : decide (P6 < P4) = false := decF (by omega)
  have q5 : decide (4294967296 ≤ R1) = false := decF (by omega)
  have HS : Hid (A = 3627848956 ∧ R = 618870799) := ⟨hA, hR⟩
  have HM : Hid ((intOf (.int .u64 A1)).toNat < (intOf (.int .u64 A)).toNat) := by show A1.toNat < A.toNat; omega
  have HU := Lib.hid hU
  have HA1 := Lib.hid hA1
  clear hA hR hA1 hR1 hP hP2 hP3 hP4 hP5 hP6 hX1 hU
  go_loop [15, 16] (fun a b => (a = .int .u64 A ∧ b = .int .u64 R) ∨ (a = .int .u64 A1 ∧ b = .int .u64 R1)) (fun a _ => (intOf a).toNat)
  case atStart => obtain ⟨rfl, rfl⟩ := HS.out; exact Or.inl ⟨by kernel_rfl, by kernel_rfl⟩
  case round =>
    rcases hrel with ⟨rfl, rfl⟩ | ⟨rfl, rfl⟩
    · go_wp2_with fail
      go_round
      case rel => exact Or.inr ⟨rfl, rfl⟩
      case measure => exact HM.out
    · skip
      obtain ⟨Q0, hQ0⟩ : ∃ A : Int, A = 1831519050 := ⟨_, rfl⟩
      obtain ⟨R0, hR0⟩ : ∃ A : Int, A = 1772344535 := ⟨_, rfl⟩
      obtain ⟨Z0, hZ0⟩ : ∃ A : Int, A = 4264337591771605800 := ⟨_, rfl⟩
      obtain ⟨P7, hP7⟩ : ∃ A : Int, A = 4237554387596083200 := ⟨_, rfl⟩
      obtain ⟨P8, hP8⟩ : ∃ A : Int, A = 7612161815069327360 := ⟨_, rfl⟩
      obtain ⟨P9, hP9⟩ : ∃ A : Int, A = 7612161819364294655 := ⟨_, rfl⟩
      obtain ⟨G1, hG1⟩ : ∃ A : Int, A = 15581492616552775680 := ⟨_, rfl⟩
      obtain ⟨G2, hG2⟩ : ∃ A : Int, A = 12216013984947503104 := ⟨_, rfl⟩
      obtain ⟨G3, hG3⟩ : ∃ A : Int, A = 12216013989242470399 := ⟨_, rfl⟩
      obtain ⟨G4, hG4⟩ : ∃ A : Int, A = 8841406557474258944 := ⟨_, rfl⟩
      have l1 : IntKind.u64.wrap 36278489554264337589248983040 = 8509551491621584896 := by rw [IntKind.wrap_u64]; decide
      have l2 : IntKind.u64.wrap (8509551491621584896 + 4294967295) = 8509551495916552191 := by rw [IntKind.wrap_u64]; decide
      have l3 : IntKind.u64.wrap 8509551495916552191 = 8509551495916552191 := by rw [IntKind.wrap_u64]; decide
      have hU' := HU.out
      have hA1' := HA1.out
      have u1 : U.tdiv 2328306436 = Q0 := by rw [hU', hQ0]; decide
      have u1w : IntKind.u64.wrap Q0 = Q0 := by rw [IntKind.wrap_u64]; omega
      have u2 : IntKind.u64.wrap (Q0 * 2328306436) = Z0 := by rw [IntKind.wrap_u64]; omega
      have u3 : IntKind.u64.wrap (U - Z0) = R0 := by rw [IntKind.wrap_u64]; omega
      have u4 : IntKind.u64.wrap (Q0 * 2313682944) = P7 := by rw [IntKind.wrap_u64]; omega
      have u5 : IntKind.u64.wrap (4294967296 * R0) = P8 := by rw [IntKind.wrap_u64]; omega
      have u6 : IntKind.u64.wrap (P8 + 4294967295) = P9 := by rw [IntKind.wrap_u64]; omega
      have u7 : IntKind.u64.wrap (A1 * 4294967296) = G1 := by rw [IntKind.wrap_u64]; omega
      have u8 : IntKind.u64.wrap (G1 + Q0) = 15581492618384294730 := by rw [IntKind.wrap_u64]; omega
      have u9 : IntKind.u64.wrap (U * 4294967296) = G2 := by rw [IntKind.wrap_u64]; omega
      have u10 : IntKind.u64.wrap (G2 + 4294967295) = G3 := by rw [IntKind.wrap_u64]; omega
      have u11 : IntKind.u64.wrap (Q0 * 10000000000000000000) = G4 := by rw [IntKind.wrap_u64]; omega
      have u12 : IntKind.u64.wrap (G3 - G4) = 3374607431768211455 := by rw [IntKind.wrap_u64]; omega
      have r1 : decide (4294967296 ≤ Q0) = false := decF (by omega)
      have r2 : decide (P9 < P7) = false := decF (by omega)
      clear hU' hA1' hQ0 hR0 hZ0 hP7 hP8 hP9 hG1 hG2 hG3 hG4
      go_wp2_with fail
      go_loop [18, 16] (fun a b => a = .int .u64 Q0 ∧ b = .int .u64 R0) (fun _ _ => 0)
      case atStart => exact ⟨rfl, rfl⟩
      case round =>
        obtain ⟨rfl, rfl⟩ := hrel
        go_wp2_with fail
        go_ret2
        exact ⟨rfl, rfl⟩
end Go.Proofs.YtjebnpkebccffaaGreatDoor
namespace Go.Proofs.YtjebnpkebccffaaGreatDoor
open Go.RowKit
def T19 : Nat := 10000000000000000000
def M19 : Nat := 15581492618384294730
theorem m19 : (B64 * B64 - 1) / T19 = B64 + M19 := by decide +kernel
theorem nlz_ten (w : World) : Calls Tryz.prog 222 #[.int .u64 10000000000000000000] w fun e w' => e = .returned (.int .u64 0) ∧ w = w' := by
  refine (nlz_any 10000000000000000000 (by unfold B64; omega) w).mono ?_
  rintro e w' ⟨rfl, rfl⟩
  exact ⟨by kernel_rfl, rfl⟩
set_option maxHeartbeats 400000 in
theorem bitsDiv_ten (w : World) : Calls Tryz.prog 274 #[.int .u64 8446744073709551615, .int .u64 18446744073709551615, .int .u64 10000000000000000000] w fun e w' => e = .returned (.tuple #[.int .u64 15581492618384294730, .int .u64 3374607431768211455]) ∧ w = w' := by
  have H := Lib.hid bitsDiv64_ten
  go_enter Tryz.func274, Tryz.ntmps274
  go_wp2_with fail
  refine (H.out _).mono ?_
  rintro e w' ⟨rfl, rfl⟩
  go_wp2_with fail
  go_ret2
  exact ⟨rfl, rfl⟩
set_option maxHeartbeats 400000 in
theorem recip_ten (w : World) : Calls Tryz.prog 275 #[.int .u64 10000000000000000000] w fun e w' => e = .returned (.int .u64 15581492618384294730) ∧ w = w' := by
  have H := Lib.hid bitsDiv_ten
  have HN := Lib.hid nlz_ten
  go_enter Tryz.func275, Tryz.ntmps275
  go_wp2_with fail
  refine (HN.out _).mono ?_
  rintro e w' ⟨rfl, rfl⟩
  go_wp2_with fail
  refine (H.out _).mono ?_
  rintro e w' ⟨rfl, rfl⟩
  go_wp2_with fail
  go_ret
  exact ⟨rfl, rfl⟩
structure WW (x1 x0 q r1 r0 : Nat) : Prop where
  lo : q * T19 ≤ x1 * B64 + x0
  hi : x1 * B64 + x0 < q * T19 + B64 + T19
  r : r0 + B64 * r1 = x1 * B64 + x0 - q * T19
  q : q < B64
  r0 : r0 < B64
theorem ww_of {x1 x0 : Nat} (h1 : x1 < T19) (h0 : x0 < B64) : WW x1 x0 (adS (mwH M19 x1 0) x1 (adC (mwL M19 x1 0) x0 0)) (sbD x1 (mwH T19 (adS (mwH M19 x1 0) x1 (adC (mwL M19 x1 0) x0 0)) 0) (sbB x0 (mwL T19 (adS (mwH M19 x1 0) x1 (adC (mwL M19 x1 0) x0 0)) 0) 0)) (sbD x0 (mwL T19 (adS (mwH M19 x1 0) x1 (adC (mwL M19 x1 0) x0 0)) 0) 0) := by
  have hT : T19 < B64 := by unfold T19 B64; decide
  have hT2 : B64 ≤ 2 * T19 := by unfold T19 B64; decide
  obtain ⟨c1, c2, c3⟩ := dww_core B64 T19 M19 x1 x0 B64_pos hT2 hT m19 h1 h0
  have e1 := mw_val M19 x1 0
  have e2 := ad_val (mwL M19 x1 0) x0 0
  have e3 := adS_lt (mwL M19 x1 0) x0 0
  generalize mwL M19 x1 0 = l at *
  generalize mwH M19 x1 0 = h at *
  generalize adS l x0 0 = s at *
  generalize adC l x0 0 = c at *
  have e4 : M19 * x1 + x0 = B64 * (h + c) + s := by rw [Nat.mul_add]; omega
  have e5 : (M19 * x1 + x0) / B64 = h + c := by rw [e4, Nat.mul_add_div B64_pos, Nat.div_eq_of_lt e3, Nat.add_zero]
  rw [e5] at c1 c2 c3
  have e6 : adS h x1 c = h + c + x1 := by unfold adS; rw [Nat.mod_eq_of_lt (by omega)]; omega
  rw [e6]
  generalize h + c + x1 = q at *
  have f1 := mw_val T19 q 0
  have f2 := mwL_lt T19 q 0
  have f3 := mwH_lt hT c3 (show 0 < B64 from B64_pos)
  have f4 := sb_val h0 f2 (show 0 ≤ 1 by omega)
  have f5 := sbB_le x0 (mwL T19 q 0) 0
  have f6 := sb_val (show x1 < B64 by omega) f3 f5
  have f7 := sbB_le x1 (mwH T19 q 0) (sbB x0 (mwL T19 q 0) 0)
  have f8 := sbD_lt x0 (mwL T19 q 0) 0
  have f9 := sbD_lt x1 (mwH T19 q 0) (sbB x0 (mwL T19 q 0) 0)
  refine ⟨c1, c2, ?_, c3, f8⟩
  generalize sbD x1 (mwH T19 q 0) (sbB x0 (mwL T19 q 0) 0) = r1 at *
  generalize sbB x1 (mwH T19 q 0) (sbB x0 (mwL T19 q 0) 0) = b2 at *
  generalize sbD x0 (mwL T19 q 0) 0 = r0 at *
  generalize sbB x0 (mwL T19 q 0) 0 = b1 at *
  generalize mwL T19 q 0 = p0 at *
  generalize mwH T19 q 0 = p1 at *
  have g1 : T19 * q = q * T19 := Nat.mul_comm _ _
  have g2 : B64 * (r1 + p1 + b1) = B64 * (x1 + B64 * b2) := by rw [f6]
  rw [Nat.mul_add, Nat.mul_add, Nat.mul_add] at g2
  have g3 : B64 * x1 = x1 * B64 := Nat.mul_comm _ _
  have g4 : B64 * (r1 + 1) ≤ B64 * B64 := Nat.mul_le_mul_left _ (by omega)
  rw [Nat.mul_add, Nat.mul_one] at g4
  have g5 : b2 = 0 ∨ b2 = 1 := by omega
  rcases g5 with rfl | rfl
  · rw [Nat.mul_zero, Nat.mul_zero] at g2
    omega
  · rw [Nat.mul_one] at g2
    omega
set_option maxHeartbeats 2000000 in
theorem divWW_a (x1 x0 q r1 r0 Q R : Nat) (w : World) (h : WW x1 x0 q r1 r0) (h1 : x1 < T19) (h0 : x0 < B64) (g1 : r1 = 0) (g2 : r0 < T19)
    (eq : q = adS (mwH M19 x1 0) x1 (adC (mwL M19 x1 0) x0 0)) (er1 : r1 = sbD x1 (mwH T19 q 0) (sbB x0 (mwL T19 q 0) 0)) (er0 : r0 = sbD x0 (mwL T19 q 0) 0) (hQ : Q = q) (hR : R = r0) (hQw : Q < B64) :
    Calls Tryz.prog 276 #[.int .u64 (x1 : Int), .int .u64 (x0 : Int), .int .u64 10000000000000000000, .int .u64 15581492618384294730] w fun e w' => e = .returned (.tuple #[.int .u64 (Q : Int), .int .u64 (R : Int)]) ∧ w = w' := by
  have hT : (T19 : Nat) = 10000000000000000000 := rfl
  have hB : B64 = 18446744073709551616 := rfl
  have hM : (M19 : Nat) = 15581492618384294730 := rfl
  have hx1 : x1 < B64 := by omega
  have hc1 : adC (mwL M19 x1 0) x0 0 ≤ 1 := adC_le (mwL_lt _ _ _) h0 (by omega)
  have hb1 := sbB_le x0 (mwL T19 q 0) 0
  have HN := Lib.hid nlz_ten
  have HM1 : Hid (∀ w, Calls Tryz.prog 200 #[.int .u64 15581492618384294730, .int .u64 (x1 : Int)] w fun e w' => e = .returned (.tuple #[.int .u64 ((mwH M19 x1 0 : Nat) : Int), .int .u64 ((mwL M19 x1 0 : Nat) : Int)]) ∧ w = w') := fun w => bits_Mul0 M19 x1 (by omega) hx1 w
  have HM2 : Hid (∀ w, Calls Tryz.prog 200 #[.int .u64 10000000000000000000, .int .u64 (q : Int)] w fun e w' => e = .returned (.tuple #[.int .u64 ((mwH T19 q 0 : Nat) : Int), .int .u64 ((mwL T19 q 0 : Nat) : Int)]) ∧ w = w') := fun w => bits_Mul0 T19 q (by omega) h.q w
  have HA1 := Lib.hid (fun w => bits_Add (mwL M19 x1 0) x0 0 (by omega) w)
  have HA2 := Lib.hid (fun w => bits_Add (mwH M19 x1 0) x1 (adC (mwL M19 x1 0) x0 0) hc1 w)
  rw [← eq] at HA2
  have HS1 := Lib.hid (fun w => bits_Sub x0 (mwL T19 q 0) 0 (by omega) w)
  rw [← er0] at HS1
  have HS2 := Lib.hid (fun w => bits_Sub x1 (mwH T19 q 0) (sbB x0 (mwL T19 q 0) 0) hb1 w)
  rw [← er1] at HS2
  have f1 : ((r1 : Int) == 0) = true := beqT (by omega)
  have f2 : decide ((10000000000000000000 : Int) ≤ (r0 : Int)) = false := decF (by omega)
  have HQ := Lib.hid hQ
  have HR := Lib.hid hR
  clear eq er1 er0 h hc1 hb1 hQ hR hQw hT hB hM
  generalize mwL M19 x1 0 = l at *
  generalize mwH M19 x1 0 = hh at *
  generalize adC l x0 0 = c at *
  generalize adS l x0 0 = ss at *
  generalize mwL T19 q 0 = p0 at *
  generalize mwH T19 q 0 = p1 at *
  generalize sbB x0 p0 0 = bb at *
  go_enter Tryz.func276, Tryz.ntmps276
  go_wp2_with fail
  refine (HN.out _).mono ?_
  rintro e w' ⟨rfl, rfl⟩
  go_wp2_with fail
  refine (HM1.out _).mono ?_
  rintro e w' ⟨rfl, rfl⟩
  go_wp2_with fail
  refine (HA1.out _).mono ?_
  rintro e w' ⟨rfl, rfl⟩
  go_wp2_with fail
  refine (HA2.out _).mono ?_
  rintro e w' ⟨rfl, rfl⟩
  go_wp2_with fail
  refine (HM2.out _).mono ?_
  rintro e w' ⟨rfl, rfl⟩
  go_wp2_with fail
  refine (HS1.out _).mono ?_
  rintro e w' ⟨rfl, rfl⟩
  go_wp2_with fail
  refine (HS2.out _).mono ?_
  rintro e w' ⟨rfl, rfl⟩
  go_wp2_with fail
  go_ret2
  exact ⟨by rw [HQ.out, HR.out]; first | rfl | (simp; done), rfl⟩
set_option maxHeartbeats 2000000 in
theorem divWW_b (x1 x0 q r1 r0 Q R : Nat) (w : World) (h : WW x1 x0 q r1 r0) (h1 : x1 < T19) (h0 : x0 < B64) (g1 : r1 = 0) (g2 : T19 ≤ r0)
    (eq : q = adS (mwH M19 x1 0) x1 (adC (mwL M19 x1 0) x0 0)) (er1 : r1 = sbD x1 (mwH T19 q 0) (sbB x0 (mwL T19 q 0) 0)) (er0 : r0 = sbD x0 (mwL T19 q 0) 0) (hQ : Q = q + 1) (hR : R = r0 - T19) (hQw : Q < B64) :
    Calls Tryz.prog 276 #[.int .u64 (x1 : Int), .int .u64 (x0 : Int), .int .u64 10000000000000000000, .int .u64 15581492618384294730] w fun e w' => e = .returned (.tuple #[.int .u64 (Q : Int), .int .u64 (R : Int)]) ∧ w = w' := by
  have hT : (T19 : Nat) = 10000000000000000000 := rfl
  have hB : B64 = 18446744073709551616 := rfl
  have hM : (M19 : Nat) = 15581492618384294730 := rfl
  have hx1 : x1 < B64 := by omega
  have hc1 : adC (mwL M19 x1 0) x0 0 ≤ 1 := adC_le (mwL_lt _ _ _) h0 (by omega)
  have hb1 := sbB_le x0 (mwL T19 q 0) 0
  have HN := Lib.hid nlz_ten
  have HM1 : Hid (∀ w, Calls Tryz.prog 200 #[.int .u64 15581492618384294730, .int .u64 (x1 : Int)] w fun e w' => e = .returned (.tuple #[.int .u64 ((mwH M19 x1 0 : Nat) : Int), .int .u64 ((mwL M19 x1 0 : Nat) : Int)]) ∧ w = w') := fun w => bits_Mul0 M19 x1 (by omega) hx1 w
  have HM2 : Hid (∀ w, Calls Tryz.prog 200 #[.int .u64 10000000000000000000, .int .u64 (q : Int)] w fun e w' => e = .returned (.tuple #[.int .u64 ((mwH T19 q 0 : Nat) : Int), .int .u64 ((mwL T19 q 0 : Nat) : Int)]) ∧ w = w') := fun w => bits_Mul0 T19 q (by omega) h.q w
  have HA1 := Lib.hid (fun w => bits_Add (mwL M19 x1 0) x0 0 (by omega) w)
  have HA2 := Lib.hid (fun w => bits_Add (mwH M19 x1 0) x1 (adC (mwL M19 x1 0) x0 0) hc1 w)
  rw [← eq] at HA2
  have HS1 := Lib.hid (fun w => bits_Sub x0 (mwL T19 q 0) 0 (by omega) w)
  rw [← er0] at HS1
  have HS2 := Lib.hid (fun w => bits_Sub x1 (mwH T19 q 0) (sbB x0 (mwL T19 q 0) 0) hb1 w)
  rw [← er1] at HS2
  have f1 : ((r1 : Int) == 0) = true := beqT (by omega)
  have f2 : decide ((10000000000000000000 : Int) ≤ (r0 : Int)) = true := decT (by omega)
  have hr0 := h.r0
  have f3 : IntKind.u64.wrap ((q : Int) + 1) = ((q + 1 : Nat) : Int) := by rw [IntKind.wrap_u64]; omega
  have f4 : IntKind.u64.wrap ((r0 : Int) - 10000000000000000000) = ((r0 - T19 : Nat) : Int) := by rw [IntKind.wrap_u64]; omega
  have HQ := Lib.hid hQ
  have HR := Lib.hid hR
  clear eq er1 er0 h hc1 hb1 hQ hR hQw hT hB hM
  generalize mwL M19 x1 0 = l at *
  generalize mwH M19 x1 0 = hh at *
  generalize adC l x0 0 = c at *
  generalize adS l x0 0 = ss at *
  generalize mwL T19 q 0 = p0 at *
  generalize mwH T19 q 0 = p1 at *
  generalize sbB x0 p0 0 = bb at *
  go_enter Tryz.func276, Tryz.ntmps276
  go_wp2_with fail
  refine (HN.out _).mono ?_
  rintro e w' ⟨rfl, rfl⟩
  go_wp2_with fail
  refine (HM1.out _).mono ?_
  rintro e w' ⟨rfl, rfl⟩
  go_wp2_with fail
  refine (HA1.out _).mono ?_
  rintro e w' ⟨rfl, rfl⟩
  go_wp2_with fail
  refine (HA2.out _).mono ?_
  rintro e w' ⟨rfl, rfl⟩
  go_wp2_with fail
  refine (HM2.out _).mono ?_
  rintro e w' ⟨rfl, rfl⟩
  go_wp2_with fail
  refine (HS1.out _).mono ?_
  rintro e w' ⟨rfl, rfl⟩
  go_wp2_with fail
  refine (HS2.out _).mono ?_
  rintro e w' ⟨rfl, rfl⟩
  go_wp2_with fail
  go_ret2
  exact ⟨by rw [HQ.out, HR.out]; first | rfl | (simp; done), rfl⟩
set_option maxHeartbeats 2000000 in
theorem divWW_c (x1 x0 q r1 r0 Q R : Nat) (w : World) (h : WW x1 x0 q r1 r0) (h1 : x1 < T19) (h0 : x0 < B64) (g1 : r1 = 1) (g2 : r0 + B64 - T19 < T19) (g3 : r0 + B64 - T19 < B64)
    (eq : q = adS (mwH M19 x1 0) x1 (adC (mwL M19 x1 0) x0 0)) (er1 : r1 = sbD x1 (mwH T19 q 0) (sbB x0 (mwL T19 q 0) 0)) (er0 : r0 = sbD x0 (mwL T19 q 0) 0) (hQ : Q = q + 1) (hR : R = r0 + B64 - T19) (hQw : Q < B64) :
    Calls Tryz.prog 276 #[.int .u64 (x1 : Int), .int .u64 (x0 : Int), .int .u64 10000000000000000000, .int .u64 15581492618384294730] w fun e w' => e = .returned (.tuple #[.int .u64 (Q : Int), .int .u64 (R : Int)]) ∧ w = w' := by
  have hT : (T19 : Nat) = 10000000000000000000 := rfl
  have hB : B64 = 18446744073709551616 := rfl
  have hM : (M19 : Nat) = 15581492618384294730 := rfl
  have hx1 : x1 < B64 := by omega
  have hc1 : adC (mwL M19 x1 0) x0 0 ≤ 1 := adC_le (mwL_lt _ _ _) h0 (by omega)
  have hb1 := sbB_le x0 (mwL T19 q 0) 0
  have HN := Lib.hid nlz_ten
  have HM1 : Hid (∀ w, Calls Tryz.prog 200 #[.int .u64 15581492618384294730, .int .u64 (x1 : Int)] w fun e w' => e = .returned (.tuple #[.int .u64 ((mwH M19 x1 0 : Nat) : Int), .int .u64 ((mwL M19 x1 0 : Nat) : Int)]) ∧ w = w') := fun w => bits_Mul0 M19 x1 (by omega) hx1 w
  have HM2 : Hid (∀ w, Calls Tryz.prog 200 #[.int .u64 10000000000000000000, .int .u64 (q : Int)] w fun e w' => e = .returned (.tuple #[.int .u64 ((mwH T19 q 0 : Nat) : Int), .int .u64 ((mwL T19 q 0 : Nat) : Int)]) ∧ w = w') := fun w => bits_Mul0 T19 q (by omega) h.q w
  have HA1 := Lib.hid (fun w => bits_Add (mwL M19 x1 0) x0 0 (by omega) w)
  have HA2 := Lib.hid (fun w => bits_Add (mwH M19 x1 0) x1 (adC (mwL M19 x1 0) x0 0) hc1 w)
  rw [← eq] at HA2
  have HS1 := Lib.hid (fun w => bits_Sub x0 (mwL T19 q 0) 0 (by omega) w)
  rw [← er0] at HS1
  have HS2 := Lib.hid (fun w => bits_Sub x1 (mwH T19 q 0) (sbB x0 (mwL T19 q 0) 0) hb1 w)
  rw [← er1] at HS2
  have f1 : ((r1 : Int) == 0) = false := beqF (by omega)
  have hr0 := h.r0
  have f3 : IntKind.u64.wrap ((q : Int) + 1) = ((q + 1 : Nat) : Int) := by rw [IntKind.wrap_u64]; omega
  have f4 : IntKind.u64.wrap ((r0 : Int) - 10000000000000000000) = ((r0 + B64 - T19 : Nat) : Int) := by rw [IntKind.wrap_u64]; omega
  have f2 : decide ((10000000000000000000 : Int) ≤ ((r0 + B64 - T19 : Nat) : Int)) = false := decF (by omega)
  generalize hS : r0 + B64 - T19 = S at *
  generalize hq1 : q + 1 = q1 at *
  clear hS hq1
  have HQ := Lib.hid hQ
  have HR := Lib.hid hR
  clear eq er1 er0 h hc1 hb1 hQ hR hQw hT hB hM
  generalize mwL M19 x1 0 = l at *
  generalize mwH M19 x1 0 = hh at *
  generalize adC l x0 0 = c at *
  generalize adS l x0 0 = ss at *
  generalize mwL T19 q 0 = p0 at *
  generalize mwH T19 q 0 = p1 at *
  generalize sbB x0 p0 0 = bb at *
  go_enter Tryz.func276, Tryz.ntmps276
  go_wp2_with fail
  refine (HN.out _).mono ?_
  rintro e w' ⟨rfl, rfl⟩
  go_wp2_with fail
  refine (HM1.out _).mono ?_
  rintro e w' ⟨rfl, rfl⟩
  go_wp2_with fail
  refine (HA1.out _).mono ?_
  rintro e w' ⟨rfl, rfl⟩
  go_wp2_with fail
  refine (HA2.out _).mono ?_
  rintro e w' ⟨rfl, rfl⟩
  go_wp2_with fail
  refine (HM2.out _).mono ?_
  rintro e w' ⟨rfl, rfl⟩
  go_wp2_with fail
  refine (HS1.out _).mono ?_
  rintro e w' ⟨rfl, rfl⟩
  go_wp2_with fail
  refine (HS2.out _).mono ?_
  rintro e w' ⟨rfl, rfl⟩
  go_wp2_with fail
  go_ret2
  exact ⟨by rw [HQ.out, HR.out]; first | rfl | (simp; done), rfl⟩
set_option maxHeartbeats 2000000 in
theorem divWW_d (x1 x0 q r1 r0 Q R : Nat) (w : World) (h : WW x1 x0 q r1 r0) (h1 : x1 < T19) (h0 : x0 < B64) (g1 : r1 = 1) (g2 : T19 ≤ r0 + B64 - T19) (g3 : r0 + B64 - T19 < B64)
    (eq : q = adS (mwH M19 x1 0) x1 (adC (mwL M19 x1 0) x0 0)) (er1 : r1 = sbD x1 (mwH T19 q 0) (sbB x0 (mwL T19 q 0) 0)) (er0 : r0 = sbD x0 (mwL T19 q 0) 0) (hQ : Q = q + 2) (hR : R = r0 + B64 - T19 - T19) (hQw : Q < B64) :
    Calls Tryz.prog 276 #[.int .u64 (x1 : Int), .int .u64 (x0 : Int), .int .u64 10000000000000000000, .int .u64 15581492618384294730] w fun e w' => e = .returned (.tuple #[.int .u64 (Q : Int), .int .u64 (R : Int)]) ∧ w = w' := by
  have hT : (T19 : Nat) = 10000000000000000000 := rfl
  have hB : B64 = 18446744073709551616 := rfl
  have hM : (M19 : Nat) = 15581492618384294730 := rfl
  have hx1 : x1 < B64 := by omega
  have hc1 : adC (mwL M19 x1 0) x0 0 ≤ 1 := adC_le (mwL_lt _ _ _) h0 (by omega)
  have hb1 := sbB_le x0 (mwL T19 q 0) 0
  have HN := Lib.hid nlz_ten
  have HM1 : Hid (∀ w, Calls Tryz.prog 200 #[.int .u64 15581492618384294730, .int .u64 (x1 : Int)] w fun e w' => e = .returned (.tuple #[.int .u64 ((mwH M19 x1 0 : Nat) : Int), .int .u64 ((mwL M19 x1 0 : Nat) : Int)]) ∧ w = w') := fun w => bits_Mul0 M19 x1 (by omega) hx1 w
  have HM2 : Hid (∀ w, Calls Tryz.prog 200 #[.int .u64 10000000000000000000, .int .u64 (q : Int)] w fun e w' => e = .returned (.tuple #[.int .u64 ((mwH T19 q 0 : Nat) : Int), .int .u64 ((mwL T19 q 0 : Nat) : Int)]) ∧ w = w') := fun w => bits_Mul0 T19 q (by omega) h.q w
  have HA1 := Lib.hid (fun w => bits_Add (mwL M19 x1 0) x0 0 (by omega) w)
  have HA2 := Lib.hid (fun w => bits_Add (mwH M19 x1 0) x1 (adC (mwL M19 x1 0) x0 0) hc1 w)
  rw [← eq] at HA2
  have HS1 := Lib.hid (fun w => bits_Sub x0 (mwL T19 q 0) 0 (by omega) w)
  rw [← er0] at HS1
  have HS2 := Lib.hid (fun w => bits_Sub x1 (mwH T19 q 0) (sbB x0 (mwL T19 q 0) 0) hb1 w)
  rw [← er1] at HS2
  have f1 : ((r1 : Int) == 0) = false := beqF (by omega)
  have hr0 := h.r0
  have f3 : IntKind.u64.wrap ((q : Int) + 1) = ((q + 1 : Nat) : Int) := by rw [IntKind.wrap_u64]; omega
  have f4 : IntKind.u64.wrap ((r0 : Int) - 10000000000000000000) = ((r0 + B64 - T19 : Nat) : Int) := by rw [IntKind.wrap_u64]; omega
  obtain ⟨S, hS⟩ : ∃ S, S = r0 + B64 - T19 := ⟨_, rfl⟩
  rw [← hS] at f4 g2 g3 hR
  obtain ⟨S2, hS2⟩ : ∃ S2, S2 = S - T19 := ⟨_, rfl⟩
  rw [← hS2] at hR
  have f5 : IntKind.u64.wrap (((q + 1 : Nat) : Int) + 1) = ((q + 2 : Nat) : Int) := by rw [IntKind.wrap_u64, Int.emod_eq_of_lt (by omega) (by omega)]; omega
  have f6 : IntKind.u64.wrap ((S : Int) - 10000000000000000000) = ((S2 : Nat) : Int) := by rw [IntKind.wrap_u64, Int.emod_eq_of_lt (by omega) (by omega)]; omega
  have f2 : decide ((10000000000000000000 : Int) ≤ (S : Int)) = true := decT (by omega)
  generalize hq2 : q + 2 = q2 at *
  generalize hq1 : q + 1 = q1 at *
  clear hS hq1 hq2 hS2
  have HQ := Lib.hid hQ
  have HR := Lib.hid hR
  clear eq er1 er0 h hc1 hb1 hQ hR hQw hT hB hM
  generalize mwL M19 x1 0 = l at *
  generalize mwH M19 x1 0 = hh at *
  generalize adC l x0 0 = c at *
  generalize adS l x0 0 = ss at *
  generalize mwL T19 q 0 = p0 at *
  generalize mwH T19 q 0 = p1 at *
  generalize sbB x0 p0 0 = bb at *
  go_enter Tryz.func276, Tryz.ntmps276
  go_wp2_with fail
  refine (HN.out _).mono ?_
  rintro e w' ⟨rfl, rfl⟩
  go_wp2_with fail
  refine (HM1.out _).mono ?_
  rintro e w' ⟨rfl, rfl⟩
  go_wp2_with fail
  refine (HA1.out _).mono ?_
  rintro e w' ⟨rfl, rfl⟩
  go_wp2_with fail
  refine (HA2.out _).mono ?_
  rintro e w' ⟨rfl, rfl⟩
  go_wp2_with fail
  refine (HM2.out _).mono ?_
  rintro e w' ⟨rfl, rfl⟩
  go_wp2_with fail
  refine (HS1.out _).mono ?_
  rintro e w' ⟨rfl, rfl⟩
  go_wp2_with fail
  refine (HS2.out _).mono ?_
  rintro e w' ⟨rfl, rfl⟩
  go_wp2_with fail
  go_ret2
  exact ⟨by rw [HQ.out, HR.out]; first | rfl | (simp; done), rfl⟩
theorem divWW_ten (x1 x0 : Nat) (h1 : x1 < T19) (h0 : x0 < B64) (w : World) :
    Calls Tryz.prog 276 #[.int .u64 (x1 : Int), .int .u64 (x0 : Int), .int .u64 10000000000000000000, .int .u64 15581492618384294730] w fun e w' => e = .returned (.tuple #[.int .u64 (((x1 * B64 + x0) / T19 : Nat) : Int), .int .u64 (((x1 * B64 + x0) % T19 : Nat) : Int)]) ∧ w = w' := by
  have h := ww_of h1 h0
  obtain ⟨q, eq⟩ : ∃ q, q = adS (mwH M19 x1 0) x1 (adC (mwL M19 x1 0) x0 0) := ⟨_, rfl⟩
  rw [← eq] at h
  obtain ⟨r0, er0⟩ : ∃ r, r = sbD x0 (mwL T19 q 0) 0 := ⟨_, rfl⟩
  obtain ⟨r1, er1⟩ : ∃ r, r = sbD x1 (mwH T19 q 0) (sbB x0 (mwL T19 q 0) 0) := ⟨_, rfl⟩
  rw [← er0, ← er1] at h
  have hT : (T19 : Nat) = 10000000000000000000 := rfl
  have hB : B64 = 18446744073709551616 := rfl
  obtain ⟨z1, z2, z3⟩ := dww_end (by omega) (by omega) h.lo h.hi
  have hr := h.r
  have hlo := h.lo
  have hhi := h.hi
  have hq := h.q
  have hr0 := h.r0
  have hQw : (x1 * B64 + x0) / T19 < B64 := by
    rw [Nat.div_lt_iff_lt_mul (by omega)]
    have : (x1 + 1) * B64 ≤ T19 * B64 := Nat.mul_le_mul_right _ (by omega)
    rw [Nat.add_mul, Nat.one_mul] at this
    rw [Nat.mul_comm B64 T19]
    omega
  generalize (x1 * B64 + x0) / T19 = Q at *
  generalize (x1 * B64 + x0) % T19 = R at *
  generalize x1 * B64 + x0 = N at *
  generalize q * T19 = X at *
  have hc : r1 = 0 ∨ r1 = 1 := by
    have : B64 * r1 < B64 * 2 := by omega
    have := Nat.lt_of_mul_lt_mul_left this
    omega
  rcases hc with hc | hc
  · rw [hc, Nat.mul_zero] at hr
    by_cases g : r0 < T19
    · obtain ⟨y1, y2⟩ := z1 (by omega)
      exact divWW_a x1 x0 q r1 r0 Q R w h h1 h0 hc g eq er1 er0 y1.symm (by omega) hQw
    · obtain ⟨y1, y2⟩ := z2 (by omega) (by omega)
      exact divWW_b x1 x0 q r1 r0 Q R w h h1 h0 hc (by omega) eq er1 er0 y1.symm (by omega) hQw
  · rw [hc, Nat.mul_one] at hr
    by_cases g : r0 + B64 - T19 < T19
    · obtain ⟨y1, y2⟩ := z2 (by omega) (by omega)
      exact divWW_c x1 x0 q r1 r0 Q R w h h1 h0 hc g (by omega) eq er1 er0 y1.symm (by omega) hQw
    · obtain ⟨y1, y2⟩ := z3 (by omega)
      exact divWW_d x1 x0 q r1 r0 Q R w h h1 h0 hc (by omega) (by omega) eq er1 er0 y1.symm (by omega) hQw
end Go.Proofs.YtjebnpkebccffaaGreatDoor
namespace Go.Proofs.YtjebnpkebccffaaGreatDoor
open Go.RowKit
def dvL (T : Nat) : List Nat → List Nat
  | [] => []
  | x :: l => ((val l % T) * B64 + x) / T :: dvL T l
theorem dvL_len (T : Nat) (l : List Nat) : (dvL T l).length = l.length := by
  induction l with
  | nil => rfl
  | cons x l ih => simp [dvL, ih]
theorem dvL_rem (T x : Nat) (l : List Nat) : ((val l % T) * B64 + x) % T = val (x :: l) % T := by
  rw [val_cons, Nat.add_mod, Nat.mul_mod, Nat.mod_mod, ← Nat.mul_mod, ← Nat.add_mod, Nat.mul_comm, Nat.add_comm]
theorem dvL_val {T : Nat} (hT : 0 < T) (l : List Nat) : val (dvL T l) = val l / T := by
  induction l with
  | nil => simp [dvL, val]
  | cons x l ih =>
    have h := Nat.div_add_mod (val l) T
    simp only [dvL, val_cons, ih]
    generalize val l / T = q at *
    generalize val l % T = r at *
    have e : x + B64 * val l = T * (B64 * q) + (r * B64 + x) := by
      have e1 : B64 * (T * q + r) = T * (B64 * q) + r * B64 := by
        rw [Nat.mul_add, ← Nat.mul_assoc, Nat.mul_comm B64 T, Nat.mul_assoc, Nat.mul_comm B64 r]
      rw [h] at e1
      omega
    rw [e, Nat.mul_add_div hT, Nat.add_comm]
theorem dvL_lt {T : Nat} (hT : 0 < T) (l : List Nat) (hl : ∀ x ∈ l, x < B64) : ∀ x ∈ dvL T l, x < B64 := by
  induction l with
  | nil => simp [dvL]
  | cons x l ih =>
    intro z hz
    rcases List.mem_cons.1 hz with h | h
    · subst h
      rw [Nat.div_lt_iff_lt_mul hT]
      have h1 := Nat.mod_lt (val l) hT
      have h2 : (val l % T + 1) * B64 ≤ T * B64 := Nat.mul_le_mul_right _ (by omega)
      rw [Nat.add_mul, Nat.one_mul] at h2
      have h3 := hl x (List.mem_cons_self ..)
      rw [Nat.mul_comm B64 T]
      omega
    · exact ih (fun y hy => hl y (List.mem_cons_of_mem _ hy)) z h
theorem putC_comm (cs : Array Value) (o i : Nat) (v : Value) (l : List Nat) (h : o < i) : putC (cs.setIfInBounds o v) i l = (putC cs i l).setIfInBounds o v := by
  induction l generalizing cs i with
  | nil => rfl
  | cons x l ih =>
    simp only [putC]
    rw [← ih _ (i + 1) (by omega), Array.setIfInBounds_comm _ _ (by omega)]
theorem putWords_pre {w : World} {b : Nat} {cs : Array Value} {T : TypeId} (h : w.heap[b]? = some (.cells cs T (0, 0))) (o x : Nat) (l : List Nat) : (putWords w b (o + 1) l).setCell ⟨b, o, none⟩ (.int .u64 (x : Int)) = putWords w b o (x :: l) := by
  rw [putWords, setRow_putC (heap_set_same h o (.int .u64 (x : Int))), setCell_eq_setRow (putWords w b (o + 1) l) b o _ T (0, 0) _ (putWords_block h _ _), setRow_putC h, setRow_setRow, setCell_eq_setRow w b o cs T (0, 0) _ h, setRow_setRow, putC_comm _ _ _ _ _ (by omega)]
set_option maxHeartbeats 2000000 in
theorem divWVW_ten (zb xb zc xc m : Nat) (xs : List Nat) (cz cx : Array Value) (Tz Tx : TypeId) (w : World) (hm : xs.length = m) (hm2 : 2 ≤ m) (hm1 : m ≤ 1000000) (hxs : ∀ x ∈ xs, x < B64)
    (hz : w.heap[zb]? = some (.cells cz Tz (0, 0))) (hzo : m ≤ cz.size) (hx : w.heap[xb]? = some (.cells cx Tx (0, 0))) (hxc : Has cx 0 xs) :
    Calls Tryz.prog 249 #[.slice (some ⟨zb, 0, none⟩) m zc, .int .u64 0, .slice (some ⟨xb, 0, none⟩) m xc, .int .u64 10000000000000000000] w fun e w' =>
      e = .returned (.int .u64 ((val xs % T19 : Nat) : Int)) ∧ w' = putWords w zb 0 (dvL T19 xs) := by
  have HM := Lib.hid hm
  have HZ := Lib.hid hz
  have HX := Lib.hid hx
  have HXC := Lib.hid hxc
  have HXS := Lib.hid hxs
  have HR := Lib.hid recip_ten
  have HW := Lib.hid divWW_ten
  have HT : Hid (0 < T19) := by show 0 < T19; unfold T19; omega
  have q1 : ((m : Int) == 1) = false := beqF (by omega)
  have hz0 : Hid (val (xs.drop m) % T19 = 0 ∧ dvL T19 (xs.drop m) = []) := by
    have : xs.drop m = [] := by rw [← hm]; exact List.drop_length
    show val (xs.drop m) % T19 = 0 ∧ _
    rw [this]
    exact ⟨by simp [val], rfl⟩
  clear hm hz hx hxc hxs
  go_enter Tryz.func249, Tryz.ntmps249
  go_wp2_with fail
  refine (HR.out _).mono ?_
  rintro e w' ⟨rfl, rfl⟩
  go_wp2_with fail
  go_loopw [8, 12] (fun r k wr => ∃ j : Nat, j ≤ m ∧ k = .int .i64 ((j : Int) - 1) ∧ r = .int .u64 ((val (xs.drop j) % T19 : Nat) : Int) ∧ wr = putWords w zb j (dvL T19 (xs.drop j))) (fun _ k _ => (intOf k + 1).toNat)
  case atStart =>
    refine ⟨m, Nat.le_refl _, rfl, ?_, ?_⟩
    · rw [hz0.out.1]; rfl
    · rw [hz0.out.2]; rfl
  case round =>
    obtain ⟨j, hj, rfl, rfl, hwr⟩ := hrel
    have HWR := Lib.hid hwr
    clear hwr
    by_cases h0 : j = 0
    · subst h0
      have g1 : decide ((0 : Int) ≤ ((0 : Nat) : Int) - 1) = false := by decide
      rw [List.drop_zero]
      rw [List.drop_zero] at HWR
      go_wp2_with fail
      go_ret
      exact ⟨rfl, HWR.out⟩
    · obtain ⟨i, rfl⟩ : ∃ i, j = i + 1 := ⟨j - 1, by omega⟩
      have hi : i < xs.length := by rw [HM.out]; omega
      have hd : xs.drop i = xs.getD i 0 :: xs.drop (i + 1) := drop_getD hi
      have hxl : xs.getD i 0 < B64 := getD_lt HXS.out i
      have hrl : val (xs.drop (i + 1)) % T19 < T19 := Nat.mod_lt _ HT.out
      have c1 : wr.cell? ⟨xb, i, none⟩ = some (.int .u64 ((xs.getD i 0 : Nat) : Int)) := by
        have := putWords_reads (l := dvL T19 (xs.drop (i + 1))) (zo := i + 1) HZ.out HX.out HXC.out i hi (fun _ => Or.inr (by omega))
        rw [HWR.out]
        rw [Nat.zero_add] at this
        exact this
      have hb := putWords_block HZ.out (i + 1) (dvL T19 (xs.drop (i + 1)))
      rw [← HWR.out] at hb
      obtain ⟨u, c2⟩ : ∃ u, wr.cell? ⟨zb, i, none⟩ = some u := by
        refine ⟨cz[i]'(by omega), ?_⟩
        rw [cell_of hb, putC_off _ _ _ _ (Or.inl (by omega))]
        exact Array.getElem?_eq_getElem (by omega)
      have f2 := frozen_of hb i
      have hfin : wr.setCell ⟨zb, i, none⟩ (.int .u64 (((val (xs.drop (i + 1)) % T19 * B64 + xs.getD i 0) / T19 : Nat) : Int)) = putWords w zb i (dvL T19 (xs.drop i)) := by
        rw [HWR.out, putWords_pre HZ.out, hd]
        rfl
      have hrem : val (xs.drop i) % T19 = (val (xs.drop (i + 1)) % T19 * B64 + xs.getD i 0) % T19 := by rw [hd, dvL_rem]
      have HF := Lib.hid hfin
      have HRM := Lib.hid hrem
      have HXL := Lib.hid hxl
      have HRL := Lib.hid hrl
      have g1 : decide ((0 : Int) ≤ ((i + 1 : Nat) : Int) - 1) = true := decT (by omega)
      have g2 : ((i + 1 : Nat) : Int) - 1 = (i : Int) := by omega
      rw [g2] at g1 ⊢
      have him : i < m := by omega
      clear hfin hrem hxl hrl hb hd hi g2 hj h0
      generalize val (xs.drop (i + 1)) % T19 = R at *
      generalize xs.getD i 0 = X at *
      have HWC : Hid (∀ w, Calls Tryz.prog 276 #[.int .u64 (R : Int), .int .u64 (X : Int), .int .u64 10000000000000000000, .int .u64 15581492618384294730] w fun e w' => e = .returned (.tuple #[.int .u64 (((R * B64 + X) / T19 : Nat) : Int), .int .u64 (((R * B64 + X) % T19 : Nat) : Int)]) ∧ w = w') := fun w => HW.out R X HRL.out HXL.out w
      generalize (R * B64 + X) / T19 = Q1 at *
      generalize (R * B64 + X) % T19 = R1 at *
      go_wp2_with fail
      refine (HWC.out _).mono ?_
      rintro e w' ⟨rfl, rfl⟩
      go_wp2_with fail
      go_roundw
      case rel => exact ⟨i, by omega, by go_num, by rw [HRM.out], HF.out⟩
      case measure => first | (simp [intOf]; done) | (simp [intOf]; omega)
set_option maxHeartbeats 2000000 in
theorem divW_ten (z x : Value) (bz bx : Option Nat) (n : Nat) (w : World) (hz : BufAt w z bz) (hx : NatAt w x n bx) (hn : Sm n) :
    Calls Tryz.prog 223 #[z, x, .int .u64 10000000000000000000] w (DivW w bz (quoN n 10000000000000000000) (remN n 10000000000000000000)) := by
  by_cases hs : n < B64
  · exact divW_small z x bz bx n 10000000000000000000 w hz hx hs (by unfold B64; omega) (by omega)
  · have h0 : n ≠ 0 := by have := B64_pos; omega
    have h2 : 2 ≤ (dig n).length := by
      rcases Nat.lt_or_ge (dig n).length 2 with h | h
      · exact absurd (dig_len_one.1 (by omega)) hs
      · exact h
    obtain ⟨kx, cx, rfl, rfl, hk, hl, hp, hs', hh⟩ := has_val hx h0
    have hlen : (dig n).length ≤ 100000 := hn
    have HV : Hid (val (dvL T19 (dig n)) = n / 10000000000000000000 ∧ val (dig n) % T19 = n % 10000000000000000000) := ⟨by rw [dvL_val (by unfold T19; omega), val_dig]; rfl, by rw [val_dig]; rfl⟩
    have HLT := Lib.hid (dvL_lt (T := T19) (by unfold T19; omega) (dig n) (dig_lt n))
    have HDL := Lib.hid (dig_lt n)
    have HZ := Lib.hid hz
    have HK := Lib.hid hk
    have HH := Lib.hid hh
    obtain ⟨ds, hds⟩ : ∃ ds, ds = dig n := ⟨_, rfl⟩
    have HQ : Hid (quoN n 10000000000000000000 = n / 10000000000000000000 ∧ remN n 10000000000000000000 = n % 10000000000000000000) := ⟨rfl, rfl⟩
    rw [← hds] at HV HLT HDL HH hl h2 hlen ⊢
    generalize quoN n 10000000000000000000 = QQ at *
    generalize remN n 10000000000000000000 = RR at *
    clear hds hz hk hh hx hn h0 hs
    have q1 : ((ds.length : Int) == 0) = false := beqF (by omega)
    go_enter Tryz.func223, Tryz.ntmps223
    go_wp2_with fail
    refine (nat_make z bz ds.length _ HZ.out (by omega) (by omega)).mono ?_
    rintro e w1 ⟨k, cs, rfl, hk, hn, hp', hs', hown⟩
    have hk1 := made_other hown HK.out
    have HO := Lib.hid hown
    have HK1 := Lib.hid hk1
    have HKK := Lib.hid hk
    clear hown hk1 hk
    go_wp2_with fail
    refine (divWVW_ten k kx cs.size cx.size ds.length ds cs cx 165 165 _ rfl h2 (by omega) HDL.out HKK.out hn HK1.out HH.out).mono ?_
    rintro e w2 ⟨rfl, hw2⟩
    have hb := putWords_block HKK.out 0 (dvL T19 ds)
    rw [← hw2] at hb
    have hbh := putC_has cs 0 (dvL T19 ds) (by rw [dvL_len]; omega)
    have HB := Lib.hid hb
    have HBH := Lib.hid hbh
    have HPK := Lib.hid (putWords_kept (Kept.refl (fun i => i = k) w1) k 0 (dvL T19 ds) (fun _ => rfl))
    rw [← hw2] at HPK
    have HRR : Hid (val ds % T19 = RR) := by show val ds % T19 = RR; rw [HV.out.2]; exact HQ.out.2.symm
    clear hb hbh hw2
    go_wp2_with fail
    refine (norm_any k 0 cs.size ds.length (dvL T19 ds) _ 165 _ (dvL_len _ _) (by omega) (by omega) HLT.out HB.out HBH.out).mono ?_
    rintro e w3 ⟨rfl, rfl⟩
    go_wp2_with fail
    go_ret2
    have := natAt_of HB.out HLT.out HV.out.1 HBH.out (by rw [putC_size, dvL_len]; omega) (by rw [putC_size]; omega) (by rw [putC_size]; omega)
    rw [putC_size] at this
    obtain ⟨v', b', h1, h2', h3, h4⟩ := natRes_mk HO.out HPK.out this
    refine ⟨v', b', ?_, by rw [HQ.out.1]; exact h2', h3, h4⟩
    injection h1 with h1
    rw [← h1, HV.out.1]
    have hrr := HRR.out
    have hrr2 : ((val ds % T19 : Nat) : Int) = (RR : Int) := by rw [hrr]
    rw [Int.natCast_emod] at hrr2
    simp [hrr2]
end Go.Proofs.YtjebnpkebccffaaGreatDoor
