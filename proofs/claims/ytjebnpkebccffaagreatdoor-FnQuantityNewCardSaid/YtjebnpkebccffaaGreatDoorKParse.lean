import Derived.Test.YtjebnpkebccffaaGreatDoorKZz
import Derived.Test.YtjebnpkebccffaaGreatDoorKPq
import Derived.Deep.Cut
import Derived.Deep.CutBlock
import Derived.Deep.CutRange
import Derived.WalkSpells
import Derived.WalkMore
set_option linter.unusedSimpArgs false
set_option linter.unusedVariables false
set_option linter.unusedSectionVars false
namespace Go.Proofs.YtjebnpkebccffaaGreatDoor
open Go.RowKit
def pqV (ev : Value) (r : PQ) : Value := .tuple #[.bool r.pos, .string r.value, .string r.num, .string r.denom, .string r.suffix, if r.ok then .nilIface else ev]
def ParseRes (w : World) (ev : Value) (r : PQ) (e : Ending) (w' : World) : Prop := e = .returned (pqV ev r) ∧ Kept (fun _ => False) w w'
theorem sgnLen_le (s : ByteArray) : sgnLen s ≤ s.size := by
  unfold sgnLen
  split
  · rename_i h
    rcases Nat.eq_zero_or_pos s.size with h0 | h0
    · rw [byteAt_end (by omega)] at h; simp [isSg] at h
    · omega
  · omega
theorem lt_of_cell0 {w : World} {b i : Nat} {v : Value} (h : w.cell? ⟨b, i, none⟩ = some v) : b < w.heap.size := by
  rcases Nat.lt_or_ge b w.heap.size with h' | h'
  · exact h'
  · have : w.heap[b]? = none := Array.getElem?_eq_none h'
    simp [World.cell?, this] at h
theorem cell_kept0 {w w' : World} {b i : Nat} {v : Value} (hb : w'.heap[b]? = w.heap[b]?) (h : w.cell? ⟨b, i, none⟩ = some v) : w'.cell? ⟨b, i, none⟩ = some v := by
  rw [← h]; simp [World.cell?, hb]
set_option maxRecDepth 100000 in
set_option maxHeartbeats 20000000 in
theorem parse_any (s : ByteArray) (hs : s.size ≤ 2147483647) (w : World) (ev : Value) (hev : w.cell? ⟨0, 0, none⟩ = some ev) : Calls Tryz.prog 49 #[.string s] w (ParseRes w ev (pq s)) := by
  have HEV := Lib.hid hev
  clear hev
  go_enter Tryz.func49, Tryz.ntmps49
  go_wp2_with fail
  go_step3
  go_upto_if 20 with fail
  go_cut [2, 8] from 16 (fun v2 v8 wx => v2 = .bool (!(byteAt s 0 == 45)) ∧ v8 = .int .i64 ((sgnLen s : Nat) : Int) ∧ wx = w)
  case first =>
    as_aux_lemma =>
      rcases Nat.eq_zero_or_pos s.size with h0 | h0
      · have hb := byteAt_end (s := s) (i := 0) (by omega)
        go_wp2_with fail
        go_meet
        case rel => exact ⟨by rw [hb]; rfl, by unfold sgnLen; rw [hb]; rfl, rfl⟩
      · have hb := byteAt_get h0
        by_cases h45 : s[0].toNat = 45
        · have g1 : ((s[0].toNat : Int) == 45) = true := beqT (by omega)
          have hs1 : sgnLen s = 1 := by unfold sgnLen; rw [hb, h45]; rfl
          have hb1 : (!(byteAt s 0 == 45)) = false := by rw [hb, h45]; rfl
          have HS1 := Lib.hid hs1
          have HB1 := Lib.hid hb1
          clear hb hb1 hs1 h45
          go_wp2_with fail
          go_meet
          case rel => exact ⟨by rw [HB1.out], by rw [HS1.out]; rfl, rfl⟩
        · have g1 : ((s[0].toNat : Int) == 45) = false := beqF (by omega)
          have hb1 : (!(byteAt s 0 == 45)) = true := by rw [hb]; simp [h45]
          by_cases h43 : s[0].toNat = 43
          · have g2 : ((s[0].toNat : Int) == 43) = true := beqT (by omega)
            have hs1 : sgnLen s = 1 := by unfold sgnLen; rw [hb, h43]; rfl
            have HS1 := Lib.hid hs1
            have HB1 := Lib.hid hb1
            clear hb hb1 hs1 h45 h43
            go_wp2_with fail
            go_meet
            case rel => exact ⟨by rw [HB1.out], by rw [HS1.out]; rfl, rfl⟩
          · have g2 : ((s[0].toNat : Int) == 43) = false := beqF (by omega)
            have hs1 : sgnLen s = 0 := by unfold sgnLen; rw [hb]; simp [isSg, h45, h43]
            have HS1 := Lib.hid hs1
            have HB1 := Lib.hid hb1
            clear hb hb1 hs1 h45 h43
            go_wp2_with fail
            go_meet
            case rel => exact ⟨by rw [HB1.out], by rw [HS1.out]; rfl, rfl⟩
  case rest =>
    obtain ⟨rfl, rfl, rfl⟩ := hcut
    go_wp2_with fail
    go_step3
    go_upto_block 1 with fail
    go_cut [8, 10] from 16 (fun v8 v10 wx => v8 = .int .i64 ((skip isZ s (sgnLen s) : Nat) : Int) ∧ v10 = v8 ∧ skip isZ s (sgnLen s) < s.size ∧ wx = wc)
    case first =>
      as_aux_lemma =>
        have hsl := sgnLen_le s
        go_wp2_with fail
        go_loop [8, 10] (fun v8 v10 => ∃ i : Nat, v8 = .int .i64 (i : Int) ∧ v10 = .int .i64 (i : Int) ∧ i ≤ s.size ∧ skip isZ s i = skip isZ s (sgnLen s)) (fun _ v10 => s.size - (intOf v10).toNat)
        case atStart => exact ⟨sgnLen s, rfl, rfl, hsl, rfl⟩
        case round =>
          obtain ⟨i, rfl, rfl, hi, he⟩ := hrel
          have HE := Lib.hid he
          rcases Nat.lt_or_ge i s.size with hlt | hge
          · by_cases h48 : s[i].toNat = 48
            · have g1 : ((s[i].toNat : Int) == 48) = true := beqT (by omega)
              have hst := skip_step (p := isZ) hlt (by simp [isZ, h48])
              have HST := Lib.hid hst
              clear he hst h48
              go_wp2_with fail
              go_round
              case rel => exact ⟨i + 1, rfl, rfl, by omega, by rw [← HST.out]; exact HE.out⟩
              case measure => simp [intOf]; omega
            · have g1 : ((s[i].toNat : Int) == 48) = false := beqF (by omega)
              have hst := skip_stop (p := isZ) hlt (by simp [isZ, h48])
              rw [he] at hst
              have HST := Lib.hid hst
              clear he hst h48
              go_wp2_with fail
              go_meet
              case rel => exact ⟨by rw [HST.out], rfl, by rw [HST.out]; exact hlt, rfl⟩
          · have hz : skip isZ s (sgnLen s) = s.size := by rw [← he, skip_end (by omega)]; omega
            have hpq : pq s = ⟨!(byteAt s 0 == 45), str0, str0, noStr, noStr, true⟩ := by
              unfold pq pqA
              rw [if_pos hz]
            have HPQ := Lib.hid hpq
            clear he hz hpq
            go_wp2_with fail
            refine bodyPost_ret (v := .tuple #[.bool (!(byteAt s 0 == 45)), .string str0, .string str0, .string noStr, .string noStr, .nilIface]) ?_ rfl ⟨by rw [HPQ.out]; rfl, Kept.refl _ _⟩
            simp [results, Tryz.f49, loadVar, go_sem, str0, noStr]
    case rest =>
      obtain ⟨rfl, rfl, hz, rfl⟩ := hcut
      have hpqB : pq s = pqB s (!(byteAt s 0 == 45)) (skip isZ s (sgnLen s)) (skip isDg s (skip isZ s (sgnLen s))) := by
        unfold pq pqA
        rw [if_neg (by omega)]
      generalize skip isZ s (sgnLen s) = z at *
      generalize hN : skip isDg s z = n at *
      have HN := Lib.hid hN
      have hzn : z ≤ n := by rw [← hN]; exact skip_ge _ _ _
      have HPQ := Lib.hid hpqB
      clear hN hpqB
      go_wp2_with fail
      go_step3
      go_upto_block 4 with fail
      go_cut [4, 8, 11] from 16 (fun v4 v8 v11 wx => v4 = .string (s.extract z n) ∧ v8 = .int .i64 (n : Int) ∧ v11 = v8 ∧ n < s.size ∧ wx = wc)
      case first =>
        as_aux_lemma =>
          go_wp2_with fail
          go_loop [8, 11] (fun v8 v11 => v8 = .int .i64 (z : Int) ∧ ∃ i : Nat, v11 = .int .i64 (i : Int) ∧ z ≤ i ∧ i ≤ s.size ∧ Hid (skip isDg s i = n)) (fun _ v11 => s.size - (intOf v11).toNat)
          case atStart => exact ⟨rfl, z, rfl, Nat.le_refl _, by omega, HN⟩
          case round =>
            obtain ⟨rfl, i, rfl, hzi, hi, HE⟩ := hrel
            rcases Nat.lt_or_ge i s.size with hlt | hge
            · by_cases hd : isDg s[i].toNat = true
              · have HST := Lib.hid (skip_step hlt hd)
                simp only [isDg, Bool.and_eq_true, decide_eq_true_eq] at hd
                obtain ⟨d1, d2⟩ := hd
                go_wp2_with fail
                all_goals (try (exfalso; omega))
                all_goals
                  go_round
                  case rel => exact ⟨rfl, i + 1, rfl, by omega, by omega, by rw [← HST.out]; exact HE⟩
                  case measure => simp [intOf]; omega
              · have hd0 : isDg s[i].toNat = false := by simpa using hd
                have hst := skip_stop hlt hd0
                rw [HE.out] at hst
                have HNI := Lib.hid hst
                clear hst hd0
                have hd1 : ¬ (48 ≤ s[i].toNat ∧ s[i].toNat ≤ 57) := by simpa [isDg] using hd
                have g0 : ((s[i].toNat : Int) == 48) = false := beqF (by omega)
                have g1 : ((s[i].toNat : Int) == 49) = false := beqF (by omega)
                have g2 : ((s[i].toNat : Int) == 50) = false := beqF (by omega)
                have g3 : ((s[i].toNat : Int) == 51) = false := beqF (by omega)
                have g4 : ((s[i].toNat : Int) == 52) = false := beqF (by omega)
                have g5 : ((s[i].toNat : Int) == 53) = false := beqF (by omega)
                have g6 : ((s[i].toNat : Int) == 54) = false := beqF (by omega)
                have g7 : ((s[i].toNat : Int) == 55) = false := beqF (by omega)
                have g8 : ((s[i].toNat : Int) == 56) = false := beqF (by omega)
                have g9 : ((s[i].toNat : Int) == 57) = false := beqF (by omega)
                clear hd hd1
                go_wp2_with fail
                go_meet
                case rel => exact ⟨by rw [HNI.out], by rw [HNI.out], rfl, by rw [HNI.out]; exact hlt, rfl⟩
            · have hni : n = s.size := by rw [← HE.out, skip_end (by omega)]; omega
              have hpq : pq s = ⟨!(byteAt s 0 == 45), s, s.extract z s.size, noStr, noStr, true⟩ := by
                rw [HPQ.out]
                unfold pqB
                rw [if_pos hni]
              have HPQ2 := Lib.hid hpq
              clear hpq
              go_wp2_with fail
              refine bodyPost_ret (v := .tuple #[.bool (!(byteAt s 0 == 45)), .string s, .string (s.extract z s.size), .string noStr, .string noStr, .nilIface]) ?_ rfl ⟨by rw [HPQ2.out]; rfl, Kept.refl _ _⟩
              simp [results, Tryz.f49, loadVar, go_sem, noStr]
      case rest =>
        obtain ⟨rfl, rfl, rfl, hn, rfl⟩ := hcut
        have hex : (s.extract z n).size = n - z := by rw [ByteArray.size_extract]; omega
        go_upto_if 79 with fail
        go_cut [4] from 16 (fun v4 wx => v4 = .string (pqNum s z n) ∧ wx = wc)
        case first =>
          as_aux_lemma =>
            by_cases he : n = z
            · have hq : pqNum s z n = str0 := if_pos he
              have HQ := Lib.hid hq
              have g : (((s.extract z n).size : Nat) : Int) == 0 := by rw [hex]; simp; omega
              clear hq
              go_wp2_with fail
              go_meet
              case rel => exact ⟨by rw [HQ.out]; rfl, rfl⟩
            · have hq : pqNum s z n = s.extract z n := if_neg he
              have HQ := Lib.hid hq
              have g : ((((s.extract z n).size : Nat) : Int) == 0) = false := beqF (by rw [hex]; omega)
              clear hq
              go_wp2_with fail
              go_meet
              case rel => exact ⟨by rw [HQ.out], rfl⟩
        case rest =>
          obtain ⟨rfl, rfl⟩ := hcut
          have hbn := byteAt_get hn
          go_upto_if 88 with fail
          go_cut [5, 8, 12] from 16 (fun v5 v8 v12 wx => ∃ (dm : ByteArray) (a : Nat), v5 = .string dm ∧ v8 = .int .i64 (a : Int) ∧ Hid (pq s = pqTail s (!(byteAt s 0 == 45)) (pqNum s z n) dm a) ∧ a < s.size ∧ wx = wc)
          case first =>
            as_aux_lemma =>
              by_cases h46 : s[n].toNat = 46
              · have g : ((s[n].toNat : Int) == 46) = true := beqT (by omega)
                have hpqD : pq s = if skip isDg s (n + 1) = s.size then ⟨!(byteAt s 0 == 45), s, pqNum s z n, s.extract (n + 1) s.size, noStr, true⟩ else pqTail s (!(byteAt s 0 == 45)) (pqNum s z n) (s.extract (n + 1) (skip isDg s (n + 1))) (skip isDg s (n + 1)) := by
                  rw [HPQ.out]
                  unfold pqB
                  rw [if_neg (by omega), if_pos (by rw [hbn]; exact h46)]
                generalize hD : skip isDg s (n + 1) = d at *
                have HD := Lib.hid hD
                have HPD := Lib.hid hpqD
                generalize hnum : pqNum s z n = num at *
                clear hD hpqD h46 hbn
                go_wp2_with fail
                go_step3
                go_wp2_with fail
                go_step3
                go_wp2_with fail
                go_loop [8, 12] (fun v8 v12 => v8 = .int .i64 ((n : Int) + 1) ∧ ∃ i : Nat, v12 = .int .i64 (i : Int) ∧ n + 1 ≤ i ∧ i ≤ s.size ∧ Hid (skip isDg s i = d)) (fun _ v12 => s.size - (intOf v12).toNat)
                case atStart => exact ⟨rfl, n + 1, rfl, Nat.le_refl _, by omega, HD⟩
                case round =>
                  obtain ⟨rfl, i, rfl, hzi, hi, HE⟩ := hrel
                  rcases Nat.lt_or_ge i s.size with hlt | hge
                  · by_cases hd : isDg s[i].toNat = true
                    · have HST := Lib.hid (skip_step hlt hd)
                      simp only [isDg, Bool.and_eq_true, decide_eq_true_eq] at hd
                      obtain ⟨d1, d2⟩ := hd
                      go_wp2_with fail
                      all_goals (try (exfalso; omega))
                      all_goals
                        go_round
                        case rel => exact ⟨rfl, i + 1, rfl, by omega, by omega, by rw [← HST.out]; exact HE⟩
                        case measure => simp [intOf]; omega
                    · have hd0 : isDg s[i].toNat = false := by simpa using hd
                      have hst := skip_stop hlt hd0
                      rw [HE.out] at hst
                      have HNI := Lib.hid hst
                      have hpt := HPD.out
                      rw [if_neg (by omega)] at hpt
                      have HPT := Lib.hid hpt
                      clear hst hd0 hpt
                      have hd1 : ¬ (48 ≤ s[i].toNat ∧ s[i].toNat ≤ 57) := by simpa [isDg] using hd
                      have g0 : ((s[i].toNat : Int) == 48) = false := beqF (by omega)
                      have g1 : ((s[i].toNat : Int) == 49) = false := beqF (by omega)
                      have g2 : ((s[i].toNat : Int) == 50) = false := beqF (by omega)
                      have g3 : ((s[i].toNat : Int) == 51) = false := beqF (by omega)
                      have g4 : ((s[i].toNat : Int) == 52) = false := beqF (by omega)
                      have g5 : ((s[i].toNat : Int) == 53) = false := beqF (by omega)
                      have g6 : ((s[i].toNat : Int) == 54) = false := beqF (by omega)
                      have g7 : ((s[i].toNat : Int) == 55) = false := beqF (by omega)
                      have g8 : ((s[i].toNat : Int) == 56) = false := beqF (by omega)
                      have g9 : ((s[i].toNat : Int) == 57) = false := beqF (by omega)
                      clear hd hd1
                      go_wp2_with fail
                      go_meet
                      case rel => exact ⟨_, i, rfl, rfl, by rw [← HNI.out]; exact HPT, hlt, rfl⟩
                  · have hdi : d = s.size := by rw [← HE.out, skip_end (by omega)]; omega
                    have hpt := HPD.out
                    rw [if_pos hdi] at hpt
                    have HPT := Lib.hid hpt
                    clear hpt
                    go_wp2_with fail
                    refine bodyPost_ret (v := .tuple #[.bool (!(byteAt s 0 == 45)), .string s, .string num, .string (s.extract (n + 1) s.size), .string noStr, .nilIface]) ?_ rfl ⟨by rw [HPT.out]; rfl, Kept.refl _ _⟩
                    simp [results, Tryz.f49, loadVar, go_sem, noStr]
              · have g : ((s[n].toNat : Int) == 46) = false := beqF (by omega)
                have hpqD : pq s = pqTail s (!(byteAt s 0 == 45)) (pqNum s z n) noStr n := by
                  rw [HPQ.out]
                  unfold pqB
                  rw [if_neg (by omega), if_neg (by rw [hbn]; exact h46)]
                have HPD := Lib.hid hpqD
                clear hpqD h46 hbn
                go_wp2_with fail
                go_meet
                case rel => exact ⟨noStr, n, rfl, rfl, HPD, hn, rfl⟩
          case rest =>
            obtain ⟨dm, a, rfl, rfl, HPT, ha, rfl⟩ := hcut
            generalize pqNum s z n = num at *
            have hfle := skip_le (p := isSf) (Nat.le_of_lt ha)
            have hfge := skip_ge isSf s a
            generalize hF : skip isSf s a = f at *
            have HF := Lib.hid hF
            clear hF
            go_upto_block 10 with fail
            go_cut [6, 8, 14] from 16 (fun v6 v8 v14 wx => v6 = .string noStr ∧ v8 = .int .i64 (f : Int) ∧ v14 = v8 ∧ f < s.size ∧ Hid (Kept (fun _ => False) wc wx))
            case first =>
              as_aux_lemma =>
                go_wp2_with fail
                go_loopw [6, 8, 14] (fun v6 v8 v14 wr => v6 = .string noStr ∧ v8 = .int .i64 (a : Int) ∧ ∃ i : Nat, v14 = .int .i64 (i : Int) ∧ a ≤ i ∧ i ≤ s.size ∧ Hid (skip isSf s i = f) ∧ Hid (Kept (fun _ => False) wc wr)) (fun _ _ v14 _ => s.size - (intOf v14).toNat)
                case atStart => exact ⟨rfl, rfl, a, rfl, Nat.le_refl _, by omega, HF, Lib.hid (Kept.refl _ _)⟩
                case round =>
                  obtain ⟨rfl, rfl, i, rfl, hzi, hi, HE, HK⟩ := hrel
                  rcases Nat.lt_or_ge i s.size with hlt | hge
                  · have hx1 : (s.extract i (i + 1)).size = 1 := by rw [ByteArray.size_extract]; omega
                    have hx2 : ((s.extract i (i + 1))[0]'(by omega)).toNat = s[i].toNat := by
                      simp [ByteArray.getElem_extract]
                    have HZ := Lib.hid (zzContains_one (s.extract i (i + 1)) s[i].toNat hx1 hx2 wr)
                    by_cases hd : isSf s[i].toNat = true
                    · have HST := Lib.hid (skip_step hlt hd)
                      rw [hd] at HZ
                      clear hd hx1 hx2
                      go_wp2_with fail
                      refine HZ.out.mono ?_
                      rintro e w1 ⟨rfl, hk⟩
                      have HK1 := Lib.hid (HK.out.same hk)
                      clear hk HZ
                      go_wp2_with fail
                      go_roundw
                      case rel => exact ⟨rfl, rfl, i + 1, rfl, by omega, by omega, by rw [← HST.out]; exact HE, HK1⟩
                      case measure => simp [intOf]; omega
                    · have hd0 : isSf s[i].toNat = false := by simpa using hd
                      have hst := skip_stop hlt hd0
                      rw [HE.out] at hst
                      have HNI := Lib.hid hst
                      rw [hd0] at HZ
                      clear hst hd0 hd hx1 hx2
                      go_wp2_with fail
                      refine HZ.out.mono ?_
                      rintro e w1 ⟨rfl, hk⟩
                      have HK1 := Lib.hid (HK.out.same hk)
                      clear hk HZ
                      go_wp2_with fail
                      go_meet
                      case rel => exact ⟨rfl, by rw [HNI.out], rfl, by rw [HNI.out]; exact hlt, HK1⟩
                  · have hfi : f = s.size := by rw [← HE.out, skip_end (by omega)]; omega
                    have hpt : pq s = ⟨!(byteAt s 0 == 45), s.extract 0 a, num, dm, s.extract a s.size, true⟩ := by
                      rw [HPT.out]
                      unfold pqTail
                      have e1 : sgnOne s s.size = s.size := by unfold sgnOne; rw [byteAt_end (Nat.le_refl _)]; rfl
                      rw [HF.out, hfi, e1, skip_end (Nat.le_refl _), if_pos rfl]
                    have HPT2 := Lib.hid hpt
                    clear hpt
                    go_wp2_with fail
                    refine bodyPost_ret (v := .tuple #[.bool (!(byteAt s 0 == 45)), .string (s.extract 0 a), .string num, .string dm, .string (s.extract a s.size), .nilIface]) ?_ rfl ⟨by rw [HPT2.out]; rfl, HK.out⟩
                    simp [results, Tryz.f49, loadVar, go_sem]
            case rest =>
              obtain ⟨rfl, rfl, rfl, hf, HK⟩ := hcut
              have hbf := byteAt_get hf
              have hg1 := sgnOne_le (s := s) (f := f) (by omega)
              generalize hG : sgnOne s f = g at *
              have HG := Lib.hid hG
              clear hG
              have hpqE : pq s = if skip isDg s g = s.size then ⟨!(byteAt s 0 == 45), s.extract 0 a, num, dm, s.extract a s.size, true⟩ else ⟨!(byteAt s 0 == 45), s.extract 0 a, num, dm, noStr, false⟩ := by
                rw [HPT.out]
                unfold pqTail
                rw [HF.out, HG.out]
              have HPE := Lib.hid hpqE
              clear hpqE
              generalize hD : skip isDg s g = d at *
              have HD := Lib.hid hD
              clear hD
              go_upto_if 147 with fail
              go_cut [8] from 16 (fun v8 wx => v8 = .int .i64 (g : Int) ∧ wx = wc)
              case first =>
                as_aux_lemma =>
                  by_cases h45 : s[f].toNat = 45
                  · have k1 : ((s[f].toNat : Int) == 45) = true := beqT (by omega)
                    have hg : g = f + 1 := by rw [← HG.out]; unfold sgnOne; rw [hbf, h45]; rfl
                    subst hg
                    clear hbf h45
                    go_wp2_with fail
                    go_meet
                    case rel => exact ⟨rfl, rfl⟩
                  · have k1 : ((s[f].toNat : Int) == 45) = false := beqF (by omega)
                    by_cases h43 : s[f].toNat = 43
                    · have k2 : ((s[f].toNat : Int) == 43) = true := beqT (by omega)
                      have hg : g = f + 1 := by rw [← HG.out]; unfold sgnOne; rw [hbf, h43]; rfl
                      subst hg
                      clear hbf h45 h43
                      go_wp2_with fail
                      go_meet
                      case rel => exact ⟨rfl, rfl⟩
                    · have k2 : ((s[f].toNat : Int) == 43) = false := beqF (by omega)
                      have hg : g = f := by rw [← HG.out]; unfold sgnOne; rw [hbf]; simp [isSg, h43, h45]
                      have HGF := Lib.hid hg
                      clear hbf h45 h43 hg
                      go_wp2_with fail
                      go_meet
                      case rel => exact ⟨by rw [HGF.out], rfl⟩
              case rest =>
                obtain ⟨rfl, rfl⟩ := hcut
                have hev : wc.cell? ⟨0, 0, none⟩ = some ev := by
                  have h0 : 0 < _ := lt_of_cell0 HEV.out
                  exact cell_kept0 (HK.out.block 0 h0 (fun f => f)) HEV.out
                go_wp2_with fail
                go_step3
                go_wp2_with fail
                go_loop [6, 15] (fun v6 v15 => v6 = .string noStr ∧ ∃ i : Nat, v15 = .int .i64 (i : Int) ∧ g ≤ i ∧ i ≤ s.size ∧ Hid (skip isDg s i = d)) (fun _ v15 => s.size - (intOf v15).toNat)
                case atStart => exact ⟨rfl, g, rfl, Nat.le_refl _, by omega, HD⟩
                case round =>
                  obtain ⟨rfl, i, rfl, hzi, hi, HE⟩ := hrel
                  rcases Nat.lt_or_ge i s.size with hlt | hge
                  · by_cases hd : isDg s[i].toNat = true
                    · have HST := Lib.hid (skip_step hlt hd)
                      simp only [isDg, Bool.and_eq_true, decide_eq_true_eq] at hd
                      obtain ⟨d1, d2⟩ := hd
                      go_wp2_with fail
                      all_goals (try (exfalso; omega))
                      all_goals
                        go_round
                        case rel => exact ⟨rfl, i + 1, rfl, by omega, by omega, by rw [← HST.out]; exact HE⟩
                        case measure => simp [intOf]; omega
                    · have hd0 : isDg s[i].toNat = false := by simpa using hd
                      have hst := skip_stop hlt hd0
                      rw [HE.out] at hst
                      have hpt := HPE.out
                      rw [if_neg (by omega)] at hpt
                      have HPT2 := Lib.hid hpt
                      clear hst hd0 hpt
                      have hd1 : ¬ (48 ≤ s[i].toNat ∧ s[i].toNat ≤ 57) := by simpa [isDg] using hd
                      have g0 : ((s[i].toNat : Int) == 48) = false := beqF (by omega)
                      have g1 : ((s[i].toNat : Int) == 49) = false := beqF (by omega)
                      have g2 : ((s[i].toNat : Int) == 50) = false := beqF (by omega)
                      have g3 : ((s[i].toNat : Int) == 51) = false := beqF (by omega)
                      have g4 : ((s[i].toNat : Int) == 52) = false := beqF (by omega)
                      have g5 : ((s[i].toNat : Int) == 53) = false := beqF (by omega)
                      have g6 : ((s[i].toNat : Int) == 54) = false := beqF (by omega)
                      have g7 : ((s[i].toNat : Int) == 55) = false := beqF (by omega)
                      have g8 : ((s[i].toNat : Int) == 56) = false := beqF (by omega)
                      have g9 : ((s[i].toNat : Int) == 57) = false := beqF (by omega)
                      clear hd hd1
                      go_wp2_with fail
                      refine bodyPost_ret (v := .tuple #[.bool (!(byteAt s 0 == 45)), .string (s.extract 0 a), .string num, .string dm, .string noStr, ev]) ?_ rfl ⟨by rw [HPT2.out]; rfl, HK.out⟩
                      simp [results, Tryz.f49, loadVar, go_sem]
                  · have hdi : d = s.size := by rw [← HE.out, skip_end (by omega)]; omega
                    have hpt := HPE.out
                    rw [if_pos hdi] at hpt
                    have HPT2 := Lib.hid hpt
                    clear hpt
                    go_wp2_with fail
                    refine bodyPost_ret (v := .tuple #[.bool (!(byteAt s 0 == 45)), .string (s.extract 0 a), .string num, .string dm, .string (s.extract a s.size), .nilIface]) ?_ rfl ⟨by rw [HPT2.out]; rfl, HK.out⟩
                    simp [results, Tryz.f49, loadVar, go_sem]
end Go.Proofs.YtjebnpkebccffaaGreatDoor
