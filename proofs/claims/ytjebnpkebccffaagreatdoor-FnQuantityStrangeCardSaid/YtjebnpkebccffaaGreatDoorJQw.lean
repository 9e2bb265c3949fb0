import Derived.Test.YtjebnpkebccffaaGreatDoorJMem
import Derived.Test.YtjebnpkebccffaaGreatDoorJPq
set_option linter.unusedSimpArgs false
set_option linter.unusedVariables false
set_option linter.unusedSectionVars false
namespace Go.Proofs.YtjebnpkebccffaaGreatDoor
open Go.RowKit
/-! ### Quantity words: quantityDigits, QuantityRight -/
def allDg (s : ByteArray) : Bool := s.data.toList.all fun c => isDg c.toNat
theorem allDg_skip (s : ByteArray) (h : skip isDg s 0 = s.size) : allDg s = true := by
  unfold allDg
  rw [List.all_eq_true]
  intro c hc
  obtain ⟨i, hi, rfl⟩ := List.getElem_of_mem hc
  have hi' : i < s.size := by simpa using hi
  exact skip_all (p := isDg) (Nat.zero_le i) (by rw [h]; exact hi') hi'
theorem allDg_no (s : ByteArray) (i : Nat) (h : i < s.size) (hd : isDg s[i].toNat = false) : allDg s = false := by
  cases ha : allDg s with
  | false => rfl
  | true =>
    unfold allDg at ha
    rw [List.all_eq_true] at ha
    have hi : i < s.data.toList.length := by simpa using h
    have := ha (s.data.toList[i]) (List.getElem_mem hi)
    have e : s.data.toList[i] = s[i] := rfl
    rw [e, hd] at this
    cases this
set_option maxRecDepth 100000 in
set_option maxHeartbeats 1000000 in
theorem digits_any (s : ByteArray) (hs : s.size ≤ 2147483647) (w : World) : Calls Tryz.prog 73 #[.string s] w fun e w' => e = .returned (.bool (allDg s)) ∧ w = w' := by
  go_enter Tryz.func73, Tryz.ntmps73
  go_wp2_with fail
  go_loop [3] (fun v => ∃ i : Nat, v = .int .i64 (i : Int) ∧ i ≤ s.size ∧ Hid (skip isDg s 0 = skip isDg s i)) (fun v => s.size - (intOf v).toNat)
  case atStart => exact ⟨0, rfl, by omega, Lib.hid rfl⟩
  case round =>
    obtain ⟨i, rfl, hi, HE⟩ := hrel
    rcases Nat.lt_or_ge i s.size with hlt | hge
    · by_cases hd : isDg s[i].toNat = true
      · have HST := Lib.hid (skip_step hlt hd)
        simp only [isDg, Bool.and_eq_true, decide_eq_true_eq] at hd
        obtain ⟨d1, d2⟩ := hd
        go_wp2_with fail
        go_round
        case rel => exact ⟨i + 1, rfl, by omega, by rw [← HST.out]; exact HE⟩
        case measure => simp [intOf]; omega
      · have hd0 : isDg s[i].toNat = false := by simpa using hd
        have ha := allDg_no s i hlt hd0
        have HA := Lib.hid ha
        have hd1 : ¬ (48 ≤ s[i].toNat ∧ s[i].toNat ≤ 57) := by simpa [isDg] using hd
        clear hd hd0 ha
        by_cases hlo : s[i].toNat < 48
        all_goals
          go_wp2_with fail
          go_ret
          exact ⟨by rw [HA.out]; rfl, rfl⟩
    · have ha := allDg_skip s (by rw [HE.out, skip_end hge]; omega)
      have HA := Lib.hid ha
      clear ha
      go_wp2_with fail
      go_ret
      exact ⟨by rw [HA.out]; rfl, rfl⟩
structure QW where
  sign : Int
  num : ByteArray
  dot : Bool
  denom : ByteArray
  kind : Int
  place : Int
  upper : Bool
  psign : Int
  power : ByteArray
def QW.cells (q : QW) : Array Value := #[.int .i64 q.sign, .string q.num, .bool q.dot, .string q.denom, .int .i64 q.kind, .int .i64 q.place, .bool q.upper, .int .i64 q.psign, .string q.power]
/-- A word that may be written. -/
structure QRight (q : QW) : Prop where
  num : allDg q.num = true
  denom : allDg q.denom = true
  some : q.num.size + q.denom.size ≠ 0
  dot : q.denom.size ≠ 0 → q.dot = true
  s0 : 0 ≤ q.sign
  s2 : q.sign ≤ 2
  kinds : (q.kind = 2 ∧ -1 ≤ q.place ∧ q.place ≤ 6) ∨ (q.kind = 1 ∧ 1 ≤ q.place ∧ q.place ≤ 6) ∨ (q.kind = 0 ∧ allDg q.power = true ∧ 0 < q.power.size ∧ q.power.size < 4 ∧ 0 ≤ q.psign ∧ q.psign ≤ 2)
theorem isEmpty_size (s : ByteArray) : s.toList.isEmpty = decide (s.size = 0) := by
  rw [ByteArray.toList_eq]
  obtain ⟨⟨l⟩⟩ := s
  cases l with
  | nil => rfl
  | cons x l => symm; exact decide_eq_false (by show ¬ (x :: l).length = 0; simp)
theorem cell9 {w : World} {q : Nat} {a0 a1 a2 a3 a4 a5 a6 a7 a8 : Value} {T : TypeId} {fz : Nat × Nat} (h : w.heap[q]? = some (.cells #[a0, a1, a2, a3, a4, a5, a6, a7, a8] T fz)) :
    w.cell? ⟨q, 0, none⟩ = some a0 ∧ w.cell? ⟨q, 1, none⟩ = some a1 ∧ w.cell? ⟨q, 2, none⟩ = some a2 ∧ w.cell? ⟨q, 3, none⟩ = some a3 ∧ w.cell? ⟨q, 4, none⟩ = some a4 ∧ w.cell? ⟨q, 5, none⟩ = some a5 ∧ w.cell? ⟨q, 6, none⟩ = some a6 ∧ w.cell? ⟨q, 7, none⟩ = some a7 ∧ w.cell? ⟨q, 8, none⟩ = some a8 :=
  ⟨by rw [cell_of h]; rfl, by rw [cell_of h]; rfl, by rw [cell_of h]; rfl, by rw [cell_of h]; rfl, by rw [cell_of h]; rfl, by rw [cell_of h]; rfl, by rw [cell_of h]; rfl, by rw [cell_of h]; rfl, by rw [cell_of h]; rfl⟩
def RightRes (w : World) (q : QW) (e : Ending) (w' : World) : Prop := (∃ k : Bool, e = .returned (.bool k) ∧ (k = true → QRight q)) ∧ Kept (fun _ => False) w w'
set_option maxRecDepth 100000 in
set_option maxHeartbeats 4000000 in
theorem QuantityRight_any (q : QW) (h1 : q.num.size ≤ 2147483647) (h2 : q.denom.size ≤ 2147483647) (h3 : q.power.size ≤ 2147483647) (w : World) :
    Calls Tryz.prog 29 #[.agg q.cells] w (RightRes w q) := by
  obtain ⟨sg, nm, dt, dn, kd, pl, up, ps, pw⟩ := q
  simp only at h1 h2 h3
  simp only [QW.cells]
  have k0 : Kept (fun _ => False) w (w.alloc (.cells #[.int .i64 sg, .string nm, .bool dt, .string dn, .int .i64 kd, .int .i64 pl, .bool up, .int .i64 ps, .string pw] 23)) := (Kept.refl _ _).alloc _
  have hb := heap_alloc_new w (.cells #[.int .i64 sg, .string nm, .bool dt, .string dn, .int .i64 kd, .int .i64 pl, .bool up, .int .i64 ps, .string pw] 23)
  generalize hW : w.alloc (.cells #[.int .i64 sg, .string nm, .bool dt, .string dn, .int .i64 kd, .int .i64 pl, .bool up, .int .i64 ps, .string pw] 23) = W at *
  obtain ⟨c0, c1, c2, c3, c4, c5, c6, c7, c8⟩ := cell9 hb
  have K0 := Lib.hid k0
  have D1 := Lib.hid (digits_any nm h1 W)
  have D2 := Lib.hid (digits_any dn h2 W)
  have D3 := Lib.hid (digits_any pw h3 W)
  clear k0 hb
  -- a way that ends with false
  cases ha : allDg nm with
  | false =>
    rw [ha] at D1
    go_enter Tryz.func29, Tryz.ntmps29
    go_wp2_with fail
    refine D1.out.mono ?_
    rintro e w1 ⟨rfl, rfl⟩
    go_wp2_with fail
    go_ret
    exact ⟨⟨false, rfl, fun h => by cases h⟩, K0.out⟩
  | true =>
    rw [ha] at D1
    cases hb : allDg dn with
    | false =>
      rw [hb] at D2
      go_enter Tryz.func29, Tryz.ntmps29
      go_wp2_with fail
      refine D1.out.mono ?_
      rintro e w1 ⟨rfl, rfl⟩
      go_wp2_with fail
      refine D2.out.mono ?_
      rintro e w1 ⟨rfl, rfl⟩
      go_wp2_with fail
      go_ret
      exact ⟨⟨false, rfl, fun h => by cases h⟩, K0.out⟩
    | true =>
      rw [hb] at D2
      -- leaves
      have e1 : (nm ++ dn).toList.isEmpty = decide (nm.size + dn.size = 0) := by rw [isEmpty_size, ByteArray.size_append]
      have e2 := isEmpty_size dn
      by_cases hsz : nm.size + dn.size = 0
      · rw [decide_eq_true hsz] at e1
        go_enter Tryz.func29, Tryz.ntmps29
        go_wp2_with fail
        refine D1.out.mono ?_
        rintro e w1 ⟨rfl, rfl⟩
        go_wp2_with fail
        refine D2.out.mono ?_
        rintro e w1 ⟨rfl, rfl⟩
        go_wp2_with (go_at_call 73; refine D3.out.mono ?_; rintro e w1 ⟨rfl, rfl⟩)
        all_goals
          go_ret
          exact ⟨⟨false, rfl, fun h => by cases h⟩, K0.out⟩
      · rw [decide_eq_false hsz] at e1
        by_cases hdn : dn.size = 0
        · rw [decide_eq_true hdn] at e2
          have hdot : dn.size ≠ 0 → dt = true := fun h => absurd hdn h
          by_cases hs0 : sg < 0
          · have g1 : decide (sg < 0) = true := decT hs0
            go_enter Tryz.func29, Tryz.ntmps29
            go_wp2_with fail
            refine D1.out.mono ?_
            rintro e w1 ⟨rfl, rfl⟩
            go_wp2_with fail
            refine D2.out.mono ?_
            rintro e w1 ⟨rfl, rfl⟩
            go_wp2_with (go_at_call 73; refine D3.out.mono ?_; rintro e w1 ⟨rfl, rfl⟩)
            all_goals
              go_ret
              exact ⟨⟨false, rfl, fun h => by cases h⟩, K0.out⟩
          · have g1 : decide (sg < 0) = false := decF hs0
            by_cases hs2 : 2 < sg
            · have g2 : decide (2 < sg) = true := decT hs2
              go_enter Tryz.func29, Tryz.ntmps29
              go_wp2_with fail
              refine D1.out.mono ?_
              rintro e w1 ⟨rfl, rfl⟩
              go_wp2_with fail
              refine D2.out.mono ?_
              rintro e w1 ⟨rfl, rfl⟩
              go_wp2_with (go_at_call 73; refine D3.out.mono ?_; rintro e w1 ⟨rfl, rfl⟩)
              all_goals
                go_ret
                exact ⟨⟨false, rfl, fun h => by cases h⟩, K0.out⟩
            · have g2 : decide (2 < sg) = false := decF hs2
              by_cases hk2 : kd = 2
              · subst hk2
                go_enter Tryz.func29, Tryz.ntmps29
                go_wp2_with fail
                refine D1.out.mono ?_
                rintro e w1 ⟨rfl, rfl⟩
                go_wp2_with fail
                refine D2.out.mono ?_
                rintro e w1 ⟨rfl, rfl⟩
                go_wp2_with (go_at_call 73; refine D3.out.mono ?_; rintro e w1 ⟨rfl, rfl⟩)
                all_goals
                  first
                  | (go_ret; exact ⟨⟨false, rfl, fun h => by cases h⟩, K0.out⟩)
                  | (go_ret; refine ⟨⟨_, rfl, fun h => ⟨ha, hb, by simpa using hsz, hdot, by omega, by omega, ?_⟩⟩, K0.out⟩; exact Or.inl ⟨rfl, (by first | (simp_all; done) | (simp_all; omega) | omega), (by first | (simp_all; done) | (simp_all; omega) | omega)⟩)
              · have g3 : (kd == 2) = false := beqF hk2
                by_cases hk1 : kd = 1
                · subst hk1
                  go_enter Tryz.func29, Tryz.ntmps29
                  go_wp2_with fail
                  refine D1.out.mono ?_
                  rintro e w1 ⟨rfl, rfl⟩
                  go_wp2_with fail
                  refine D2.out.mono ?_
                  rintro e w1 ⟨rfl, rfl⟩
                  go_wp2_with (go_at_call 73; refine D3.out.mono ?_; rintro e w1 ⟨rfl, rfl⟩)
                  all_goals
                    first
                    | (go_ret; exact ⟨⟨false, rfl, fun h => by cases h⟩, K0.out⟩)
                    | (go_ret; refine ⟨⟨_, rfl, fun h => ⟨ha, hb, by simpa using hsz, hdot, by omega, by omega, ?_⟩⟩, K0.out⟩; exact Or.inr (Or.inl ⟨rfl, (by first | (simp_all; done) | (simp_all; omega) | omega), (by first | (simp_all; done) | (simp_all; omega) | omega)⟩))
                · have g4 : (kd == 1) = false := beqF hk1
                  by_cases hk0 : kd = 0
                  · subst hk0
                    cases hp : allDg pw with
                    | false =>
                      rw [hp] at D3
                      go_enter Tryz.func29, Tryz.ntmps29
                      go_wp2_with fail
                      refine D1.out.mono ?_
                      rintro e w1 ⟨rfl, rfl⟩
                      go_wp2_with fail
                      refine D2.out.mono ?_
                      rintro e w1 ⟨rfl, rfl⟩
                      go_wp2_with (go_at_call 73; refine D3.out.mono ?_; rintro e w1 ⟨rfl, rfl⟩)
                      all_goals
                        go_ret
                        exact ⟨⟨false, rfl, fun h => by cases h⟩, K0.out⟩
                    | true =>
                      rw [hp] at D3
                      go_enter Tryz.func29, Tryz.ntmps29
                      go_wp2_with fail
                      refine D1.out.mono ?_
                      rintro e w1 ⟨rfl, rfl⟩
                      go_wp2_with fail
                      refine D2.out.mono ?_
                      rintro e w1 ⟨rfl, rfl⟩
                      go_wp2_with (go_at_call 73; refine D3.out.mono ?_; rintro e w1 ⟨rfl, rfl⟩)
                      all_goals
                        first
                        | (go_ret; exact ⟨⟨false, rfl, fun h => by cases h⟩, K0.out⟩)
                        | (go_ret; refine ⟨⟨_, rfl, fun h => ⟨ha, hb, by simpa using hsz, hdot, by omega, by omega, ?_⟩⟩, K0.out⟩; exact Or.inr (Or.inr ⟨rfl, hp, (by first | (simp_all; done) | (simp_all; omega) | omega), (by first | (simp_all; done) | (simp_all; omega) | omega), (by first | (simp_all; done) | (simp_all; omega) | omega), (by first | (simp_all; done) | (simp_all; omega) | omega)⟩))
                  · have g5 : (kd == 0) = false := beqF hk0
                    go_enter Tryz.func29, Tryz.ntmps29
                    go_wp2_with fail
                    refine D1.out.mono ?_
                    rintro e w1 ⟨rfl, rfl⟩
                    go_wp2_with fail
                    refine D2.out.mono ?_
                    rintro e w1 ⟨rfl, rfl⟩
                    go_wp2_with (go_at_call 73; refine D3.out.mono ?_; rintro e w1 ⟨rfl, rfl⟩)
                    all_goals
                      go_ret
                      exact ⟨⟨false, rfl, fun h => by cases h⟩, K0.out⟩
        · rw [decide_eq_false hdn] at e2
          cases dt with
          | false =>
            go_enter Tryz.func29, Tryz.ntmps29
            go_wp2_with fail
            refine D1.out.mono ?_
            rintro e w1 ⟨rfl, rfl⟩
            go_wp2_with fail
            refine D2.out.mono ?_
            rintro e w1 ⟨rfl, rfl⟩
            go_wp2_with (go_at_call 73; refine D3.out.mono ?_; rintro e w1 ⟨rfl, rfl⟩)
            all_goals
              go_ret
              exact ⟨⟨false, rfl, fun h => by cases h⟩, K0.out⟩
          | true =>
            by_cases hs0 : sg < 0
            · have g1 : decide (sg < 0) = true := decT hs0
              go_enter Tryz.func29, Tryz.ntmps29
              go_wp2_with fail
              refine D1.out.mono ?_
              rintro e w1 ⟨rfl, rfl⟩
              go_wp2_with fail
              refine D2.out.mono ?_
              rintro e w1 ⟨rfl, rfl⟩
              go_wp2_with (go_at_call 73; refine D3.out.mono ?_; rintro e w1 ⟨rfl, rfl⟩)
              all_goals
                go_ret
                exact ⟨⟨false, rfl, fun h => by cases h⟩, K0.out⟩
            · have g1 : decide (sg < 0) = false := decF hs0
              by_cases hs2 : 2 < sg
              · have g2 : decide (2 < sg) = true := decT hs2
                go_enter Tryz.func29, Tryz.ntmps29
                go_wp2_with fail
                refine D1.out.mono ?_
                rintro e w1 ⟨rfl, rfl⟩
                go_wp2_with fail
                refine D2.out.mono ?_
                rintro e w1 ⟨rfl, rfl⟩
                go_wp2_with (go_at_call 73; refine D3.out.mono ?_; rintro e w1 ⟨rfl, rfl⟩)
                all_goals
                  go_ret
                  exact ⟨⟨false, rfl, fun h => by cases h⟩, K0.out⟩
              · have g2 : decide (2 < sg) = false := decF hs2
                by_cases hk2 : kd = 2
                · subst hk2
                  go_enter Tryz.func29, Tryz.ntmps29
                  go_wp2_with fail
                  refine D1.out.mono ?_
                  rintro e w1 ⟨rfl, rfl⟩
                  go_wp2_with fail
                  refine D2.out.mono ?_
                  rintro e w1 ⟨rfl, rfl⟩
                  go_wp2_with (go_at_call 73; refine D3.out.mono ?_; rintro e w1 ⟨rfl, rfl⟩)
                  all_goals
                    first
                    | (go_ret; exact ⟨⟨false, rfl, fun h => by cases h⟩, K0.out⟩)
                    | (go_ret; refine ⟨⟨_, rfl, fun h => ⟨ha, hb, by simpa using hsz, (fun _ => rfl), by omega, by omega, ?_⟩⟩, K0.out⟩; exact Or.inl ⟨rfl, (by first | (simp_all; done) | (simp_all; omega) | omega), (by first | (simp_all; done) | (simp_all; omega) | omega)⟩)
                · have g3 : (kd == 2) = false := beqF hk2
                  by_cases hk1 : kd = 1
                  · subst hk1
                    go_enter Tryz.func29, Tryz.ntmps29
                    go_wp2_with fail
                    refine D1.out.mono ?_
                    rintro e w1 ⟨rfl, rfl⟩
                    go_wp2_with fail
                    refine D2.out.mono ?_
                    rintro e w1 ⟨rfl, rfl⟩
                    go_wp2_with (go_at_call 73; refine D3.out.mono ?_; rintro e w1 ⟨rfl, rfl⟩)
                    all_goals
                      first
                      | (go_ret; exact ⟨⟨false, rfl, fun h => by cases h⟩, K0.out⟩)
                      | (go_ret; refine ⟨⟨_, rfl, fun h => ⟨ha, hb, by simpa using hsz, (fun _ => rfl), by omega, by omega, ?_⟩⟩, K0.out⟩; exact Or.inr (Or.inl ⟨rfl, (by first | (simp_all; done) | (simp_all; omega) | omega), (by first | (simp_all; done) | (simp_all; omega) | omega)⟩))
                  · have g4 : (kd == 1) = false := beqF hk1
                    by_cases hk0 : kd = 0
                    · subst hk0
                      cases hp : allDg pw with
                      | false =>
                        rw [hp] at D3
                        go_enter Tryz.func29, Tryz.ntmps29
                        go_wp2_with fail
                        refine D1.out.mono ?_
                        rintro e w1 ⟨rfl, rfl⟩
                        go_wp2_with fail
                        refine D2.out.mono ?_
                        rintro e w1 ⟨rfl, rfl⟩
                        go_wp2_with (go_at_call 73; refine D3.out.mono ?_; rintro e w1 ⟨rfl, rfl⟩)
                        all_goals
                          go_ret
                          exact ⟨⟨false, rfl, fun h => by cases h⟩, K0.out⟩
                      | true =>
                        rw [hp] at D3
                        go_enter Tryz.func29, Tryz.ntmps29
                        go_wp2_with fail
                        refine D1.out.mono ?_
                        rintro e w1 ⟨rfl, rfl⟩
                        go_wp2_with fail
                        refine D2.out.mono ?_
                        rintro e w1 ⟨rfl, rfl⟩
                        go_wp2_with (go_at_call 73; refine D3.out.mono ?_; rintro e w1 ⟨rfl, rfl⟩)
                        all_goals
                          first
                          | (go_ret; exact ⟨⟨false, rfl, fun h => by cases h⟩, K0.out⟩)
                          | (go_ret; refine ⟨⟨_, rfl, fun h => ⟨ha, hb, by simpa using hsz, (fun _ => rfl), by omega, by omega, ?_⟩⟩, K0.out⟩; exact Or.inr (Or.inr ⟨rfl, hp, (by first | (simp_all; done) | (simp_all; omega) | omega), (by first | (simp_all; done) | (simp_all; omega) | omega), (by first | (simp_all; done) | (simp_all; omega) | omega), (by first | (simp_all; done) | (simp_all; omega) | omega)⟩))
                    · have g5 : (kd == 0) = false := beqF hk0
                      go_enter Tryz.func29, Tryz.ntmps29
                      go_wp2_with fail
                      refine D1.out.mono ?_
                      rintro e w1 ⟨rfl, rfl⟩
                      go_wp2_with fail
                      refine D2.out.mono ?_
                      rintro e w1 ⟨rfl, rfl⟩
                      go_wp2_with (go_at_call 73; refine D3.out.mono ?_; rintro e w1 ⟨rfl, rfl⟩)
                      all_goals
                        go_ret
                        exact ⟨⟨false, rfl, fun h => by cases h⟩, K0.out⟩
end Go.Proofs.YtjebnpkebccffaaGreatDoor
namespace Go.Proofs.YtjebnpkebccffaaGreatDoor
open Go.RowKit
/-! ### zzFits13, laws.quantitySign, laws.quantityFair (printed by qsg.py) -/
def FitsRes (w : World) (q : QW) (e : Ending) (w' : World) : Prop := (∃ k : Bool, e = .returned (.bool k) ∧ (k = true → q.num.size ≤ 2147483647 ∧ q.denom.size ≤ 2147483647 ∧ q.power.size ≤ 2147483647)) ∧ Kept (fun _ => False) w w'
set_option maxRecDepth 100000 in
set_option maxHeartbeats 1000000 in
theorem zzFits13_any (q : QW) (w : World) : Calls Tryz.prog 7 #[.agg q.cells] w (FitsRes w q) := by
  obtain ⟨sg, nm, dt, dn, kd, pl, up, ps, pw⟩ := q
  simp only [QW.cells]
  have K0 := Lib.hid ((Kept.refl (fun _ => False) w).alloc (.cells #[.int .i64 sg, .string nm, .bool dt, .string dn, .int .i64 kd, .int .i64 pl, .bool up, .int .i64 ps, .string pw] 23))
  have hb := heap_alloc_new w (.cells #[.int .i64 sg, .string nm, .bool dt, .string dn, .int .i64 kd, .int .i64 pl, .bool up, .int .i64 ps, .string pw] 23)
  obtain ⟨c0, c1, c2, c3, c4, c5, c6, c7, c8⟩ := cell9 hb
  clear hb
  by_cases h1 : (2147483647 : Int) < (nm.size : Int)
  · go_enter Tryz.func7, Tryz.ntmps7
    go_wp2_with fail
    go_ret
    exact ⟨⟨false, rfl, fun h => by cases h⟩, K0.out⟩
  · by_cases h2 : (2147483647 : Int) < (dn.size : Int)
    · go_enter Tryz.func7, Tryz.ntmps7
      go_wp2_with fail
      go_ret
      exact ⟨⟨false, rfl, fun h => by cases h⟩, K0.out⟩
    · by_cases h3 : (2147483647 : Int) < (pw.size : Int)
      · go_enter Tryz.func7, Tryz.ntmps7
        go_wp2_with fail
        go_ret
        exact ⟨⟨false, rfl, fun h => by cases h⟩, K0.out⟩
      · go_enter Tryz.func7, Tryz.ntmps7
        go_wp2_with fail
        go_ret
        exact ⟨⟨true, rfl, fun _ => ⟨by show nm.size ≤ _; omega, by show dn.size ≤ _; omega, by show pw.size ≤ _; omega⟩⟩, K0.out⟩
def qsL : List Nat := [48, 49, 50, 51, 52, 53, 54, 55, 56, 57, 46, 43, 45, 101, 69, 105, 110, 117, 109, 107, 75, 77, 71, 84, 80]
set_option maxRecDepth 100000 in
theorem qsL_is : ∀ c : Fin 256, isQ c.val = qsL.contains c.val := by decide
theorem qs_cell : ∀ i, i < 25 → (#[.int .u8 48, .int .u8 49, .int .u8 50, .int .u8 51, .int .u8 52, .int .u8 53, .int .u8 54, .int .u8 55, .int .u8 56, .int .u8 57, .int .u8 46, .int .u8 43, .int .u8 45, .int .u8 101, .int .u8 69, .int .u8 105, .int .u8 110, .int .u8 117, .int .u8 109, .int .u8 107, .int .u8 75, .int .u8 77, .int .u8 71, .int .u8 84, .int .u8 80] : Array Value)[i]? = some (.int .u8 ((qsL.getD i 0 : Nat) : Int)) := by
  intro i hi
  match i, hi with
  | 0, _ => rfl
  | 1, _ => rfl
  | 2, _ => rfl
  | 3, _ => rfl
  | 4, _ => rfl
  | 5, _ => rfl
  | 6, _ => rfl
  | 7, _ => rfl
  | 8, _ => rfl
  | 9, _ => rfl
  | 10, _ => rfl
  | 11, _ => rfl
  | 12, _ => rfl
  | 13, _ => rfl
  | 14, _ => rfl
  | 15, _ => rfl
  | 16, _ => rfl
  | 17, _ => rfl
  | 18, _ => rfl
  | 19, _ => rfl
  | 20, _ => rfl
  | 21, _ => rfl
  | 22, _ => rfl
  | 23, _ => rfl
  | 24, _ => rfl
  | n + 25, h => exact absurd h (by omega)
theorem isQ_no (c : Nat) (hc : c < 256) (h : ∀ j, j < 25 → qsL.getD j 0 ≠ c) : isQ c = false := by
  rw [qsL_is ⟨c, hc⟩]
  cases hh : qsL.contains c with
  | false => rfl
  | true =>
    rw [List.contains_iff_mem] at hh
    obtain ⟨j, hj, e⟩ := List.getElem_of_mem hh
    exact absurd (by simp [List.getD, hj, e]) (h j hj)
theorem isQ_yes (j : Nat) (hj : j < 25) : isQ (qsL.getD j 0) = true := by
  have h : ∀ j : Fin 25, isQ (qsL.getD j.val 0) = true := by decide
  exact h ⟨j, hj⟩
theorem conv_lit (w : World) (C : Array Value) (n : Nat) : (convert 57 57 (.slice (some ⟨w.heap.size, 0, none⟩) n n)).run Tryz.prog (w.alloc (.cells C 5)) = .ok (.slice (some ⟨w.heap.size, 0, none⟩) n n) (w.alloc (.cells C 5 (C.size, C.size + 1))) := by
  have hsh : (w.alloc (.cells C 5)).shape? w.heap.size = some (5, C.size) := by
    have : (w.alloc (.cells C 5)).heap[w.heap.size]? = some (.cells C 5) := heap_alloc_new _ _
    unfold World.shape?
    rw [this]
  have hm : ∀ (a : Array Obj) (x : Obj) (f : Obj → Obj), (a.push x).modify a.size f = a.push (f x) := by
    intro a x f
    apply Array.ext
    · simp
    · intro i h1 h2
      simp only [Array.getElem_modify, Array.getElem_push]
      by_cases h : a.size = i
      · subst h
        simp
      · have hi : i < a.size := by simp at h1; omega
        simp [h, hi]
  have hfr : (w.alloc (.cells C 5)).freeze ⟨w.heap.size, C.size, none⟩ 1 = w.alloc (.cells C 5 (C.size, C.size + 1)) := by
    unfold World.freeze
    rw [if_neg (by decide)]
    show ({ w.alloc (.cells C 5) with heap := (w.heap.push (.cells C 5)).modify w.heap.size _ } : World) = _
    rw [hm]
    rfl
  simp [convert, run_underlying Tryz.underlying57, run_underlying Tryz.underlying5, Result.andThen, markStringish, hsh]
  exact hfr
set_option maxRecDepth 100000 in
set_option maxHeartbeats 2000000 in
theorem lawsSign_any (c : Nat) (hc : c < 256) (w : World) : Calls Tryz.prog 8 #[.int .u8 (c : Int)] w fun e w' => e = .returned (.bool (isQ c)) ∧ Kept (fun _ => False) w w' := by
  have hcv := conv_lit w #[.int .u8 48, .int .u8 49, .int .u8 50, .int .u8 51, .int .u8 52, .int .u8 53, .int .u8 54, .int .u8 55, .int .u8 56, .int .u8 57, .int .u8 46, .int .u8 43, .int .u8 45, .int .u8 101, .int .u8 69, .int .u8 105, .int .u8 110, .int .u8 117, .int .u8 109, .int .u8 107, .int .u8 75, .int .u8 77, .int .u8 71, .int .u8 84, .int .u8 80] 25
  have hsz : (#[.int .u8 48, .int .u8 49, .int .u8 50, .int .u8 51, .int .u8 52, .int .u8 53, .int .u8 54, .int .u8 55, .int .u8 56, .int .u8 57, .int .u8 46, .int .u8 43, .int .u8 45, .int .u8 101, .int .u8 69, .int .u8 105, .int .u8 110, .int .u8 117, .int .u8 109, .int .u8 107, .int .u8 75, .int .u8 77, .int .u8 71, .int .u8 84, .int .u8 80] : Array Value).size = 25 := rfl
  rw [hsz] at hcv
  have k0 : Kept (fun _ => False) w (w.alloc (.cells #[.int .u8 48, .int .u8 49, .int .u8 50, .int .u8 51, .int .u8 52, .int .u8 53, .int .u8 54, .int .u8 55, .int .u8 56, .int .u8 57, .int .u8 46, .int .u8 43, .int .u8 45, .int .u8 101, .int .u8 69, .int .u8 105, .int .u8 110, .int .u8 117, .int .u8 109, .int .u8 107, .int .u8 75, .int .u8 77, .int .u8 71, .int .u8 84, .int .u8 80] 5 (25, 25 + 1))) := (Kept.refl _ _).alloc _
  have hb := heap_alloc_new w (.cells #[.int .u8 48, .int .u8 49, .int .u8 50, .int .u8 51, .int .u8 52, .int .u8 53, .int .u8 54, .int .u8 55, .int .u8 56, .int .u8 57, .int .u8 46, .int .u8 43, .int .u8 45, .int .u8 101, .int .u8 69, .int .u8 105, .int .u8 110, .int .u8 117, .int .u8 109, .int .u8 107, .int .u8 75, .int .u8 77, .int .u8 71, .int .u8 84, .int .u8 80] 5 (25, 25 + 1))
  generalize hW : w.alloc (.cells #[.int .u8 48, .int .u8 49, .int .u8 50, .int .u8 51, .int .u8 52, .int .u8 53, .int .u8 54, .int .u8 55, .int .u8 56, .int .u8 57, .int .u8 46, .int .u8 43, .int .u8 45, .int .u8 101, .int .u8 69, .int .u8 105, .int .u8 110, .int .u8 117, .int .u8 109, .int .u8 107, .int .u8 75, .int .u8 77, .int .u8 71, .int .u8 84, .int .u8 80] 5 (25, 25 + 1)) = W at *
  have K0 := Lib.hid k0
  have hcell : ∀ i, i < 25 → W.cell? ⟨w.heap.size, i, none⟩ = some (.int .u8 ((qsL.getD i 0 : Nat) : Int)) := fun i hi => by rw [cell_of hb]; exact qs_cell i hi
  have HC := Lib.hid hcell
  clear hb hcell hW k0 hsz
  go_enter Tryz.func8, Tryz.ntmps8
  go_wp2_with fail
  go_loop [8] (fun v => ∃ i : Nat, v = .int .i64 (i : Int) ∧ i ≤ 25 ∧ Hid (∀ j, j < i → qsL.getD j 0 ≠ c)) (fun v => 25 - (intOf v).toNat)
  case atStart => exact ⟨0, rfl, by omega, Lib.hid (fun j h => by omega)⟩
  case round =>
    obtain ⟨i, rfl, hi, HN⟩ := hrel
    rcases Nat.lt_or_ge i 25 with hlt | hge
    · have cc := HC.out i hlt
      by_cases he : qsL.getD i 0 = c
      · have hq := isQ_yes i hlt
        rw [he] at hq cc
        have HQ := Lib.hid hq
        clear hq he
        go_wp2_with fail
        go_ret
        exact ⟨by rw [HQ.out]; rfl, K0.out⟩
      · have HN2 : Hid (∀ j, j < i + 1 → qsL.getD j 0 ≠ c) := fun j hj => by
          by_cases hji : j = i
          · rw [hji]; exact he
          · exact HN.out j (by omega)
        generalize qsL.getD i 0 = x at cc he
        have g1 : ((c : Int) == (x : Int)) = false := beqF (by omega)
        have g2 : (c == x) = false := by simp; omega
        go_wp2_with fail
        go_round
        case rel => exact ⟨i + 1, rfl, by omega, HN2⟩
        case measure => simp [intOf]; omega
    · obtain rfl : i = 25 := by omega
      have hq := isQ_no c hc HN.out
      have HQ := Lib.hid hq
      clear hq
      go_wp2_with fail
      go_ret
      exact ⟨by rw [HQ.out]; rfl, K0.out⟩
def ABool (w : World) (e : Ending) (w' : World) : Prop := (∃ k : Bool, e = .returned (.bool k)) ∧ w = w'
set_option maxRecDepth 100000 in
set_option maxHeartbeats 4000000 in
theorem lawsFair_some (s : ByteArray) (hs : s.size ≤ 2147483647) (w : World) : Calls Tryz.prog 9 #[.string s] w (ABool w) := by
  go_enter Tryz.func9, Tryz.ntmps9
  go_wp2_with fail
  go_loop [3, 4, 5, 6] (fun v3 v4 v5 v6 => ∃ (a b : Bool) (P : Int) (i : Nat), v3 = .bool a ∧ v4 = .int .i64 P ∧ 0 ≤ P ∧ P ≤ 1000 ∧ v5 = .bool b ∧ v6 = .int .i64 (i : Int) ∧ i ≤ s.size) (fun _ _ _ v6 => s.size - (intOf v6).toNat)
  case atStart => exact ⟨false, false, 0, 0, rfl, rfl, by omega, by omega, rfl, rfl, by omega⟩
  case round =>
    obtain ⟨a, b, P, i, rfl, rfl, hP0, hP1, rfl, rfl, hi⟩ := hrel
    rcases Nat.lt_or_ge i s.size with hlt | hge
    · go_wp2_with fail
      all_goals
        first
        | (go_ret; exact ⟨⟨_, rfl⟩, rfl⟩)
        | (go_round; (case rel => exact ⟨_, _, _, i + 1, rfl, rfl, by first | omega | (split <;> omega), by first | omega | (split <;> omega), rfl, rfl, by omega⟩); (case measure => simp [intOf]; omega))
    · go_wp2_with fail
      all_goals
        go_ret
        exact ⟨⟨_, rfl⟩, rfl⟩
end Go.Proofs.YtjebnpkebccffaaGreatDoor
