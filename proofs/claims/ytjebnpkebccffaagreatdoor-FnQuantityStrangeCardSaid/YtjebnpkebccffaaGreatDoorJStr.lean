import Derived.Test.YtjebnpkebccffaaGreatDoorJQof
import Derived.Test.YtjebnpkebccffaaGreatDoorJQw
import Derived.Test.YtjebnpkebccffaaGreatDoorJKind
import Derived.Test.YtjebnpkebccffaaGreatDoorJPqa
set_option linter.unusedSimpArgs false
set_option linter.unusedVariables false
set_option linter.unusedSectionVars false
namespace Go.Proofs.YtjebnpkebccffaaGreatDoor
open Go.RowKit
/-! ### The law FnQuantityStrange -/
/-- What the package's variables hold, as far as the laws read them. -/
def Globs (w : World) : Prop := (∃ a b c, Errs w a b c) ∧ (∃ a, Eof w a) ∧ Leaf w ∧ ∃ tp pe, w.cell? ⟨8, 0, none⟩ = some (.iface tp pe)
theorem Globs.kept {w w' : World} (h : Globs w) (hk : Kept (fun _ => False) w w') : Globs w' := by
  obtain ⟨⟨a, b, c, h1⟩, ⟨e, h2⟩, h3, tp, pe, h4⟩ := h
  exact ⟨⟨a, b, c, h1.kept hk⟩, ⟨e, h2.kept hk (fun f => f)⟩, cell_same hk h3, tp, pe, cell_same hk h4⟩
theorem Globs.awake {w : World} (h : Globs w) : Calls Tryz.prog 12 #[] w fun e w' => e = .returned (.bool true) ∧ Kept (fun _ => False) w w' := by
  obtain ⟨⟨a, b, c, h1⟩, ⟨e, h2⟩, h3, _⟩ := h
  exact YtjebnpkebccffaaGreatDoor.awake w _ e h1.g0 h2 h3
theorem qwrite_size (q : QW) (h1 : q.num.size + q.denom.size ≤ 100) (h2 : q.power.size ≤ 2) : (qwrite q).size ≤ 200 := by
  have hs := sgStr_size q.sign
  have hp := sgStr_size q.psign
  have hb : (qbase q).size ≤ 110 := by
    unfold qbase
    split
    · simp only [ByteArray.size_append]
      have : (⟨#[46]⟩ : ByteArray).size = 1 := rfl
      omega
    · simp only [ByteArray.size_append]; omega
  have hd : ∀ n, (decSuf n).size ≤ 2 := fun n => by unfold decSuf; split <;> decide
  have hbi : ∀ n, (binSuf n).size ≤ 2 := fun n => by unfold binSuf; split <;> decide
  have e1 : (⟨#[69]⟩ : ByteArray).size = 1 := rfl
  have e2 : (⟨#[101]⟩ : ByteArray).size = 1 := rfl
  unfold qwrite
  split
  · have := hd (q.place + 1).toNat
    simp only [ByteArray.size_append]; omega
  · split
    · have := hbi (q.place - 1).toNat
      simp only [ByteArray.size_append]; omega
    · split <;> (simp only [ByteArray.size_append]; omega)
def LawRes (w : World) (e : Ending) (w' : World) : Prop := e = .returned (.bool true) ∧ Kept (fun _ => False) w w'
set_option maxRecDepth 100000 in
set_option maxHeartbeats 8000000 in
theorem strange_any (s : ByteArray) (q : QW) (w : World) (hg : Globs w) : Calls Tryz.prog 3 #[.string s, .agg q.cells] w (LawRes w) := by
  have HF : Hid (∀ w, Calls Tryz.prog 7 #[.agg q.cells] w (FitsRes w q)) := fun w => zzFits13_any q w
  have HO : Hid (q.num.size ≤ 2147483647 ∧ q.denom.size ≤ 2147483647 ∧ q.power.size ≤ 2147483647 → ∀ w, Calls Tryz.prog 11 #[.agg q.cells] w (QofRes w q)) := fun h w => quantityOf_any q h.1 h.2.1 h.2.2 w
  have HG := Lib.hid hg
  have HKS : Hid (∀ w t d, Globs w → OfOk q t d → (q.kind ≠ 2 ∨ q.place ≠ 0) → Calls Tryz.prog 10 #[.string (t ++ kStr)] w (KindRes w)) := fun w t d hg ho hp => by
    obtain ⟨rfl, h2, h3, h4, -⟩ := ho
    obtain ⟨⟨a, b, c, g1⟩, -, -, tp, pe, g4⟩ := hg
    exact Kind_strange q h2 hp (by rw [ByteArray.size_append]; have := qwrite_size q h3 h4; have : kStr.size = 1 := rfl; omega) w a b c g1 tp pe g4
  have HSZ : Hid (∀ t d, OfOk q t d → t.size ≤ 200) := fun t d ho => by
    obtain ⟨rfl, h2, h3, h4, -⟩ := ho
    exact qwrite_size q h3 h4
  have HKB : Hid (s.size ≤ 2147483647 → ∀ i (hi : i < s.size), isQ s[i].toNat = false → ∀ w, Globs w → Calls Tryz.prog 10 #[.string s] w (KindRes w)) := fun hs i hi hq w hg => by
    obtain ⟨⟨a, b, c, g1⟩, -⟩ := hg
    exact Kind_byte s hs i hi hq w a b c g1
  have k0 : Kept (fun _ => False) w (w.alloc (.cells q.cells 23)) := (Kept.refl _ _).alloc _
  have b1 := heap_alloc_new w (.cells q.cells 23)
  have KD : Hid (q.kind = q.kind) := Lib.hid rfl
  generalize hFR : FitsRes = FR at HF
  have hfr : ∀ w e w', FR w q e w' → (∃ k : Bool, e = .returned (.bool k) ∧ (k = true → q.num.size ≤ 2147483647 ∧ q.denom.size ≤ 2147483647 ∧ q.power.size ≤ 2147483647)) ∧ Kept (fun _ => False) w w' := fun w e w' h => by rw [← hFR] at h; exact h
  have HFR := Lib.hid hfr
  generalize hQR : QofRes = QR at HO
  have hqr : ∀ w e w', QR w q e w' → (∃ (t cn : ByteArray) (p : Option Addr) (n c : Nat) (d : Dm) (k : Bool), e = .returned (.tuple #[.string t, .agg #[.bool d.neg, .slice p n c, .int .i64 d.e], .string cn, .bool k]) ∧ (k = true → OfOk q t d)) ∧ Kept (fun _ => False) w w' := fun w e w' h => by
    rw [← hQR] at h
    obtain ⟨⟨t, cn, p, n, c, d, k, h1, h2, -⟩, h3⟩ := h
    exact ⟨⟨t, cn, p, n, c, d, k, h1, h2⟩, h3⟩
  have HQR := Lib.hid hqr
  clear hqr hfr hg hFR hQR
  generalize OfOk q = OO at *
  obtain ⟨sg, nm, dt, dn, kd, pl, up, ps, pw⟩ := q
  simp only [QW.cells] at *
  generalize hW : w.alloc (.cells #[.int .i64 sg, .string nm, .bool dt, .string dn, .int .i64 kd, .int .i64 pl, .bool up, .int .i64 ps, .string pw] 23) = W at *
  have B1 := Lib.hid b1
  have K0 := Lib.hid k0
  obtain ⟨c0, c1, c2, c3, c4, c5, c6, c7, c8⟩ := cell9 b1
  clear b1 k0
  by_cases hs : (2147483647 : Int) < (s.size : Int)
  · go_enter Tryz.func3, Tryz.ntmps3
    go_wp2_with fail
    go_ret
    exact ⟨rfl, K0.out⟩
  · have hs0 : decide ((2147483647 : Int) < (s.size : Int)) = false := decF hs
    have hs2 : s.size ≤ 2147483647 := by omega
    have HS := Lib.hid hs2
    clear hs
    go_enter Tryz.func3, Tryz.ntmps3
    go_wp2_with fail
    refine (HF.out _).mono ?_
    intro e w2 hr
    obtain ⟨⟨k, rfl, hk⟩, hk2⟩ := HFR.out _ _ _ hr
    have G1 := Lib.hid (hk2.at B1.out (fun f => f))
    have K2 := Lib.hid (K0.out.same hk2)
    have HK := Lib.hid hk
    clear hr hk hk2 c0 c1 c2 c3 c4 c5 c6 c7 c8 hW
    cases k
    · go_wp2_with fail
      go_ret
      exact ⟨rfl, K2.out⟩
    · have HFT := Lib.hid (HK.out rfl)
      clear HK
      go_wp2_with fail
      go_loopw [5, 6] (fun v5 v6 wr => ∃ (i : Nat) (b : Bool), v6 = .int .i64 (i : Int) ∧ i ≤ s.size ∧ v5 = .bool b ∧ Hid (b = true → ∃ j, ∃ (h : j < s.size), isQ s[j].toNat = false) ∧ Hid (Kept (fun _ => False) w2 wr)) (fun _ v6 _ => s.size - uOf v6)
      case atStart => exact ⟨0, false, rfl, by omega, rfl, Lib.hid (fun h => by cases h), Lib.hid (Kept.refl _ _)⟩
      case round =>
        obtain ⟨i, b, rfl, hi, rfl, HB, HW⟩ := hrel
        rcases Nat.lt_or_ge i s.size with hlt | hge
        · cases b
          · have hcon := fun w => lawsSign_any s[i].toNat (by have := s[i].toNat_lt; omega) w
            have HCON := Lib.hid hcon
            clear hcon
            go_wp2_with fail
            refine (HCON.out _).mono ?_
            rintro e w3 ⟨rfl, hk3⟩
            have HW3 := Lib.hid (HW.out.same hk3)
            have HB3 : Hid ((!isQ s[i].toNat) = true → ∃ j, ∃ (h : j < s.size), isQ s[j].toNat = false) := fun h => ⟨i, hlt, by simpa using h⟩
            clear hk3
            generalize isQ s[i].toNat = iq at *
            go_wp2_with fail
            go_roundw
            case rel => exact ⟨i + 1, !iq, rfl, by omega, rfl, HB3, HW3⟩
            case measure => simp [uOf]; omega
          · go_wp2_with fail
            go_roundw
            case rel => exact ⟨i + 1, true, rfl, by omega, rfl, HB, HW⟩
            case measure => simp [uOf]; omega
        · obtain rfl : i = s.size := by omega
          have KW := Lib.hid (K2.out.same HW.out)
          have GW := Lib.hid (HW.out.at G1.out (fun f => f))
          obtain ⟨c0, c1, c2, c3, c4, c5, c6, c7, c8⟩ := cell9 GW.out
          clear hi hge
          cases b
          · go_wp2_with fail
            refine (HO.out HFT.out _).mono ?_
            intro e w5 hr
            obtain ⟨⟨t, cn, p, n, c, d, k, rfl, hk⟩, hk5⟩ := HQR.out _ _ _ hr
            have K5 := Lib.hid (KW.out.same hk5)
            have G5 := Lib.hid (hk5.at GW.out (fun f => f))
            have HOK := Lib.hid hk
            have k6 : Kept (fun _ => False) w (w5.alloc (.cells #[.bool d.neg, .slice p n c, .int .i64 d.e] 30)) := K5.out.alloc _
            have g6 := ((Kept.refl (fun _ => False) w5).alloc (.cells #[.bool d.neg, .slice p n c, .int .i64 d.e] 30)).at G5.out (fun f => f)
            obtain ⟨c0, c1, c2, c3, c4, c5, c6, c7, c8⟩ := cell9 g6
            generalize hW6 : w5.alloc (.cells #[.bool d.neg, .slice p n c, .int .i64 d.e] 30) = w6 at *
            have K6 := Lib.hid k6
            clear hr hk hk5 k6 g6
            cases k
            · go_wp2_with fail
              refine ((HG.out.kept K6.out).awake).mono ?_
              rintro e w7 ⟨rfl, hk7⟩
              have K7 := Lib.hid (K6.out.same hk7)
              clear hk7
              go_wp2_with fail
              go_ret
              exact ⟨rfl, K7.out⟩
            · have HOO := Lib.hid (HOK.out rfl)
              have hsz := HSZ.out _ _ HOO.out
              have f1 : ¬ (9223372036854775807 < t.size + 1) := by omega
              by_cases hd : kd = 2 ∧ pl = 0
              · obtain ⟨rfl, rfl⟩ := hd
                go_wp2_with fail
                refine ((HG.out.kept K6.out).awake).mono ?_
                rintro e w7 ⟨rfl, hk7⟩
                have K7 := Lib.hid (K6.out.same hk7)
                clear hk7
                go_wp2_with fail
                go_ret
                exact ⟨rfl, K7.out⟩
              · have HKK := Lib.hid (HKS.out w6 t d (HG.out.kept K6.out) HOO.out (by omega))
                by_cases hkd : kd = 2
                · have e2 : (pl == 0) = false := beqF (by omega)
                  have e3 : (pl != 0) = true := by simp only [bne, e2]; rfl
                  subst hkd
                  clear hd
                  go_wp2_with fail
                  refine (HKK.out).mono ?_
                  rintro e w7 ⟨⟨kk, rfl, hkk⟩, hk7⟩
                  have hkk1 : (kk == 0) = false := beqF hkk
                  have K7 := Lib.hid (K6.out.same hk7)
                  clear hk7 hkk
                  go_wp2_with fail
                  refine ((HG.out.kept K7.out).awake).mono ?_
                  rintro e w8 ⟨rfl, hk8⟩
                  have K8 := Lib.hid (K7.out.same hk8)
                  clear hk8
                  go_wp2_with fail
                  go_ret
                  exact ⟨rfl, K8.out⟩
                · have e2 : (kd == 2) = false := beqF hkd
                  have e3 : (kd != 2) = true := by simp only [bne, e2]; rfl
                  clear hd hkd
                  go_wp2_with fail
                  refine (HKK.out).mono ?_
                  rintro e w7 ⟨⟨kk, rfl, hkk⟩, hk7⟩
                  have hkk1 : (kk == 0) = false := beqF hkk
                  have K7 := Lib.hid (K6.out.same hk7)
                  clear hk7 hkk
                  go_wp2_with fail
                  refine ((HG.out.kept K7.out).awake).mono ?_
                  rintro e w8 ⟨rfl, hk8⟩
                  have K8 := Lib.hid (K7.out.same hk8)
                  clear hk8
                  go_wp2_with fail
                  go_ret
                  exact ⟨rfl, K8.out⟩
          · obtain ⟨j, hj, hq⟩ := HB.out rfl
            have HQK := Lib.hid (HKB.out HS.out j hj hq)
            have hfair := fun w => lawsFair_some s HS.out w
            have HFAIR := Lib.hid hfair
            clear hq hfair
            go_wp2_with fail
            refine (HFAIR.out _).mono ?_
            rintro e w4 ⟨⟨kf, rfl⟩, rfl⟩
            cases kf
            · go_wp2_with fail
              refine (HO.out HFT.out _).mono ?_
              intro e w5 hr
              obtain ⟨⟨t, cn, p, n, c, d, k, rfl, hk⟩, hk5⟩ := HQR.out _ _ _ hr
              have K5 := Lib.hid (KW.out.same hk5)
              have G5 := Lib.hid (hk5.at GW.out (fun f => f))
              have HOK := Lib.hid hk
              have k6 : Kept (fun _ => False) w (w5.alloc (.cells #[.bool d.neg, .slice p n c, .int .i64 d.e] 30)) := K5.out.alloc _
              have g6 := ((Kept.refl (fun _ => False) w5).alloc (.cells #[.bool d.neg, .slice p n c, .int .i64 d.e] 30)).at G5.out (fun f => f)
              obtain ⟨c0, c1, c2, c3, c4, c5, c6, c7, c8⟩ := cell9 g6
              generalize hW6 : w5.alloc (.cells #[.bool d.neg, .slice p n c, .int .i64 d.e] 30) = w6 at *
              have K6 := Lib.hid k6
              clear hr hk hk5 k6 g6
              cases k
              · go_wp2_with fail
                refine ((HG.out.kept K6.out).awake).mono ?_
                rintro e w7 ⟨rfl, hk7⟩
                have K7 := Lib.hid (K6.out.same hk7)
                clear hk7
                go_wp2_with fail
                go_ret
                exact ⟨rfl, K7.out⟩
              · have HOO := Lib.hid (HOK.out rfl)
                have hsz := HSZ.out _ _ HOO.out
                have f1 : ¬ (9223372036854775807 < t.size + 1) := by omega
                by_cases hd : kd = 2 ∧ pl = 0
                · obtain ⟨rfl, rfl⟩ := hd
                  go_wp2_with fail
                  refine ((HG.out.kept K6.out).awake).mono ?_
                  rintro e w7 ⟨rfl, hk7⟩
                  have K7 := Lib.hid (K6.out.same hk7)
                  clear hk7
                  go_wp2_with fail
                  go_ret
                  exact ⟨rfl, K7.out⟩
                · have HKK := Lib.hid (HKS.out w6 t d (HG.out.kept K6.out) HOO.out (by omega))
                  by_cases hkd : kd = 2
                  · have e2 : (pl == 0) = false := beqF (by omega)
                    have e3 : (pl != 0) = true := by simp only [bne, e2]; rfl
                    subst hkd
                    clear hd
                    go_wp2_with fail
                    refine (HKK.out).mono ?_
                    rintro e w7 ⟨⟨kk, rfl, hkk⟩, hk7⟩
                    have hkk1 : (kk == 0) = false := beqF hkk
                    have K7 := Lib.hid (K6.out.same hk7)
                    clear hk7 hkk
                    go_wp2_with fail
                    refine ((HG.out.kept K7.out).awake).mono ?_
                    rintro e w8 ⟨rfl, hk8⟩
                    have K8 := Lib.hid (K7.out.same hk8)
                    clear hk8
                    go_wp2_with fail
                    go_ret
                    exact ⟨rfl, K8.out⟩
                  · have e2 : (kd == 2) = false := beqF hkd
                    have e3 : (kd != 2) = true := by simp only [bne, e2]; rfl
                    clear hd hkd
                    go_wp2_with fail
                    refine (HKK.out).mono ?_
                    rintro e w7 ⟨⟨kk, rfl, hkk⟩, hk7⟩
                    have hkk1 : (kk == 0) = false := beqF hkk
                    have K7 := Lib.hid (K6.out.same hk7)
                    clear hk7 hkk
                    go_wp2_with fail
                    refine ((HG.out.kept K7.out).awake).mono ?_
                    rintro e w8 ⟨rfl, hk8⟩
                    have K8 := Lib.hid (K7.out.same hk8)
                    clear hk8
                    go_wp2_with fail
                    go_ret
                    exact ⟨rfl, K8.out⟩
            · go_wp2_with fail
              refine (HQK.out _ (HG.out.kept KW.out)).mono ?_
              rintro e w4 ⟨⟨kk, rfl, hkk⟩, hk4⟩
              have hkk1 : (kk == 0) = false := beqF hkk
              have KW' := Lib.hid (KW.out.same hk4)
              have GW' := Lib.hid (hk4.at GW.out (fun f => f))
              clear hk4 hkk KW GW
              have KW := KW'
              have GW := GW'
              clear KW' GW' c0 c1 c2 c3 c4 c5 c6 c7 c8
              obtain ⟨c0, c1, c2, c3, c4, c5, c6, c7, c8⟩ := cell9 GW.out
              go_wp2_with fail
              refine (HO.out HFT.out _).mono ?_
              intro e w5 hr
              obtain ⟨⟨t, cn, p, n, c, d, k, rfl, hk⟩, hk5⟩ := HQR.out _ _ _ hr
              have K5 := Lib.hid (KW.out.same hk5)
              have G5 := Lib.hid (hk5.at GW.out (fun f => f))
              have HOK := Lib.hid hk
              have k6 : Kept (fun _ => False) w (w5.alloc (.cells #[.bool d.neg, .slice p n c, .int .i64 d.e] 30)) := K5.out.alloc _
              have g6 := ((Kept.refl (fun _ => False) w5).alloc (.cells #[.bool d.neg, .slice p n c, .int .i64 d.e] 30)).at G5.out (fun f => f)
              obtain ⟨c0, c1, c2, c3, c4, c5, c6, c7, c8⟩ := cell9 g6
              generalize hW6 : w5.alloc (.cells #[.bool d.neg, .slice p n c, .int .i64 d.e] 30) = w6 at *
              have K6 := Lib.hid k6
              clear hr hk hk5 k6 g6
              cases k
              · go_wp2_with fail
                refine ((HG.out.kept K6.out).awake).mono ?_
                rintro e w7 ⟨rfl, hk7⟩
                have K7 := Lib.hid (K6.out.same hk7)
                clear hk7
                go_wp2_with fail
                go_ret
                exact ⟨rfl, K7.out⟩
              · have HOO := Lib.hid (HOK.out rfl)
                have hsz := HSZ.out _ _ HOO.out
                have f1 : ¬ (9223372036854775807 < t.size + 1) := by omega
                by_cases hd : kd = 2 ∧ pl = 0
                · obtain ⟨rfl, rfl⟩ := hd
                  go_wp2_with fail
                  refine ((HG.out.kept K6.out).awake).mono ?_
                  rintro e w7 ⟨rfl, hk7⟩
                  have K7 := Lib.hid (K6.out.same hk7)
                  clear hk7
                  go_wp2_with fail
                  go_ret
                  exact ⟨rfl, K7.out⟩
                · have HKK := Lib.hid (HKS.out w6 t d (HG.out.kept K6.out) HOO.out (by omega))
                  by_cases hkd : kd = 2
                  · have e2 : (pl == 0) = false := beqF (by omega)
                    have e3 : (pl != 0) = true := by simp only [bne, e2]; rfl
                    subst hkd
                    clear hd
                    go_wp2_with fail
                    refine (HKK.out).mono ?_
                    rintro e w7 ⟨⟨kk, rfl, hkk⟩, hk7⟩
                    have hkk1 : (kk == 0) = false := beqF hkk
                    have K7 := Lib.hid (K6.out.same hk7)
                    clear hk7 hkk
                    go_wp2_with fail
                    refine ((HG.out.kept K7.out).awake).mono ?_
                    rintro e w8 ⟨rfl, hk8⟩
                    have K8 := Lib.hid (K7.out.same hk8)
                    clear hk8
                    go_wp2_with fail
                    go_ret
                    exact ⟨rfl, K8.out⟩
                  · have e2 : (kd == 2) = false := beqF hkd
                    have e3 : (kd != 2) = true := by simp only [bne, e2]; rfl
                    clear hd hkd
                    go_wp2_with fail
                    refine (HKK.out).mono ?_
                    rintro e w7 ⟨⟨kk, rfl, hkk⟩, hk7⟩
                    have hkk1 : (kk == 0) = false := beqF hkk
                    have K7 := Lib.hid (K6.out.same hk7)
                    clear hk7 hkk
                    go_wp2_with fail
                    refine ((HG.out.kept K7.out).awake).mono ?_
                    rintro e w8 ⟨rfl, hk8⟩
                    have K8 := Lib.hid (K7.out.same hk8)
                    clear hk8
                    go_wp2_with fail
                    go_ret
                    exact ⟨rfl, K8.out⟩
end Go.Proofs.YtjebnpkebccffaaGreatDoor
