import Derived.Test.YtjebnpkebccffaaGreatDoorKDivm
set_option linter.unusedSimpArgs false
set_option linter.unusedVariables false
set_option linter.unusedSectionVars false
namespace Go.Proofs.YtjebnpkebccffaaGreatDoor
open Go.RowKit
def Mine (w : World) (x : Nat) (bx : Option Nat) (p : Nat) (b : Option Nat) : Prop := ∀ k, (k = p ∨ b = some k) → k < w.heap.size → (k = x ∨ bx = some k)
theorem Mine.new {w : World} {x p : Nat} {bx b : Option Nat} (hp : w.heap.size ≤ p) (hb : ∀ k, b = some k → w.heap.size ≤ k) : Mine w x bx p b := by
  intro k hk hlt
  rcases hk with hk | hk
  · omega
  · have := hb k hk; omega
theorem Mine.own {w wr : World} {x p : Nat} {bx b b' : Option Nat} (h : Mine w x bx p b) (ho : Own wr b b') (hs : w.heap.size ≤ wr.heap.size) : Mine w x bx p b' := by
  intro k hk hlt
  rcases ho with rfl | ⟨j, rfl, hj⟩
  · exact h k hk hlt
  · rcases hk with hk | hk
    · exact h k (Or.inl hk) hlt
    · injection hk with hk; omega
structure RSt (w : World) (x y : Nat) (bx by_ : Option Nat) (ry : List Value) (Ty : TypeId) (n f t pd pq pm : Nat) (wr : World) : Prop where
  ex : ∃ bd bq bm rd rq Td Tq nq nm, IntAt wr pd ((n / f ^ t : Nat) : Int) bd rd Td ∧ IntAt wr pq nq bq rq Tq ∧ IntAt wr pm nm bm [] 109 ∧ IntAt wr y (f : Int) by_ ry Ty ∧
    Sep pd bd pq bq ∧ Sep pd bd pm bm ∧ Sep pq bq pm bm ∧ Sep pd bd y by_ ∧ Sep pq bq y by_ ∧ Sep pm bm y by_ ∧
    Mine w x bx pd bd ∧ Mine w x bx pq bq ∧ Mine w x bx pm bm
  kept : Kept (fun k => k = x ∨ bx = some k) w wr
theorem kept_new {S : Nat → Prop} {w w1 w2 : World} (h : Kept S w w1) (k : Kept (fun _ => False) w1 w2) : Kept S w w2 := h.trans k (fun _ _ h => h) (fun _ _ f => f.elim)
theorem RSt.old {w : World} {x y : Nat} {bx by_ : Option Nat} {ry : List Value} {Ty : TypeId} {n f t pd pq pm : Nat} {wr wr' : World} (h : RSt w x y bx by_ ry Ty n f t pd pq pm wr) (k : Kept (fun _ => False) wr wr') : RSt w x y bx by_ ry Ty n f t pd pq pm wr' := by
  obtain ⟨⟨bd, bq, bm, rd, rq, Td, Tq, nq, nm, a1, a2, a3, a4, rest⟩, hk⟩ := h
  exact ⟨⟨bd, bq, bm, rd, rq, Td, Tq, nq, nm, a1.old k, a2.old k, a3.old k, a4.old k, rest⟩, kept_new hk k⟩
theorem RSt.divmod {w : World} {x y : Nat} {bx by_ : Option Nat} {ry : List Value} {Ty : TypeId} {n f t pd pq pm : Nat} {wr : World} (h : RSt w x y bx by_ ry Ty n f t pd pq pm wr) (hn : n < B64) (hf : f < B64) (hf0 : f ≠ 0) :
    Calls Tryz.prog 119 #[.pointer (some ⟨pq, 0, none⟩), .pointer (some ⟨pd, 0, none⟩), .pointer (some ⟨y, 0, none⟩), .pointer (some ⟨pm, 0, none⟩)] wr fun e w' =>
      e = .returned (.tuple #[.pointer (some ⟨pq, 0, none⟩), .pointer (some ⟨pm, 0, none⟩)]) ∧ RSt w x y bx by_ ry Ty n f (t + 1) pq pd pm w' ∧ RSt w x y bx by_ ry Ty n f t pd pq pm w' ∧ ∃ bm, IntAt w' pm ((n / f ^ t % f : Nat) : Int) bm [] 109 := by
  obtain ⟨⟨bd, bq, bm, rd, rq, Td, Tq, nq, nm, a1, a2, a3, a4, s1, s2, s3, s4, s5, s6, m1, m2, m3⟩, hk⟩ := h
  refine (Int_DivMod_small pq pd y pm (n / f ^ t) f nq nm bq bd by_ bm rq rd ry [] Tq Td Ty 109 wr a2 a1 a4 a3 s1.symm s5 s2.symm s6 s3 (Nat.lt_of_le_of_lt (Nat.div_le_self _ _) hn) hf hf0).mono ?_
  rintro e w' ⟨rfl, bq', bm', c1, c2, ck, o1, o2, hap⟩
  have hlt1 := a1.lt
  have hlt4 := a4.lt
  have k1 : IntAt w' pd ((n / f ^ t : Nat) : Int) bd rd Td := a1.kept ck (by
    rintro (h | h | h | h)
    · exact s1.1 h
    · exact s2.1 h
    · exact s1.2.2.1 h
    · exact s2.2.2.1 h) (fun k hk => by
    rintro (h | h | h | h)
    · subst h; exact s1.2.1 hk
    · subst h; exact s2.2.1 hk
    · exact s1.2.2.2 k hk h
    · exact s2.2.2.2 k hk h)
  have k4 : IntAt w' y (f : Int) by_ ry Ty := a4.kept ck (by
    rintro (h | h | h | h)
    · exact s5.1 h.symm
    · exact s6.1 h.symm
    · exact s5.2.1 h
    · exact s6.2.1 h) (fun k hk => by
    rintro (h | h | h | h)
    · subst h; exact s5.2.2.1 hk
    · subst h; exact s6.2.2.1 hk
    · exact s5.2.2.2 k h hk
    · exact s6.2.2.2 k h hk)
  have t1 : Sep pq bq' pd bd := s1.symm.own o1 a1.lt a1.lts
  have t2 : Sep pm bm' pd bd := s2.symm.own o2 a1.lt a1.lts
  have t5 : Sep pq bq' y by_ := s5.own o1 a4.lt a4.lts
  have t6 : Sep pm bm' y by_ := s6.own o2 a4.lt a4.lts
  have t3 : Sep pq bq' pm bm' := by
    refine ⟨s3.1, own_ne o1 a3.lt s3.2.1, own_ne o2 a2.lt s3.2.2.1, hap⟩
  have hk' : Kept (fun k => k = x ∨ bx = some k) w w' := hk.trans ck (fun _ _ h => h) (fun i hi h => by
    rcases h with h | h | h | h
    · exact m2 i (Or.inl h) hi
    · exact m3 i (Or.inl h) hi
    · exact m2 i (Or.inr h) hi
    · exact m3 i (Or.inr h) hi)
  have n2 := m2.own o1 hk.size
  have n3 := m3.own o2 hk.size
  have e : n / f ^ t / f = n / f ^ (t + 1) := by rw [Nat.div_div_eq_div_mul, Nat.pow_succ]
  refine ⟨rfl, ⟨⟨bq', bd, bm', rq, rd, Tq, Td, _, _, by rw [← e]; exact c1, k1, c2, k4, t1, t3, t2.symm, t5, s4, t6, n2, m1, n3⟩, hk'⟩, ⟨⟨bd, bq', bm', rd, rq, Td, Tq, _, _, k1, c1, c2, k4, t1.symm, t2.symm, t3, s4, t5, t6, m1, n2, n3⟩, hk'⟩, bm', c2⟩
theorem RSt.cmp0 {w : World} {x y : Nat} {bx by_ : Option Nat} {ry : List Value} {Ty : TypeId} {n f t pd pq pm : Nat} {wr w1 : World} (h : RSt w x y bx by_ ry Ty n f t pd pq pm wr) {e : Ending} (hN : NewRes wr 0 e w1) (hv : n / f ^ t ≠ 0) :
    ∃ p0, e = .returned (.pointer (some ⟨p0, 0, none⟩)) ∧ RSt w x y bx by_ ry Ty n f t pd pq pm w1 ∧ Calls Tryz.prog 103 #[.pointer (some ⟨pd, 0, none⟩), .pointer (some ⟨p0, 0, none⟩)] w1 fun e w' => e = .returned (.int .i64 1) ∧ Drew w1 w' := by
  obtain ⟨p0, b0, rfl, hp, hi, hk, hb⟩ := hN
  have h' := h.old hk
  obtain ⟨⟨bd, bq, bm, rd, rq, Td, Tq, nq, nm, a1, a2, a3, a4, s1, s2, s3, s4, s5, s6, m1, m2, m3⟩, hk0⟩ := h
  refine ⟨p0, rfl, h', ?_⟩
  have := Int_Cmp pd p0 _ _ bd b0 rd [] Td 109 w1 (a1.old hk) hi (by have := a1.lt; omega)
  have e : cmpZ ((n / f ^ t : Nat) : Int) 0 = 1 := by
    generalize n / f ^ t = q at hv ⊢
    unfold cmpZ
    rw [if_neg (by omega), if_pos (by omega)]
  rwa [e] at this
theorem int_cmp0 {pm m : Nat} {bm : Option Nat} {wr w1 : World} (a : IntAt wr pm (m : Int) bm [] 109) {e : Ending} (hN : NewRes wr 0 e w1) :
    ∃ p0, e = .returned (.pointer (some ⟨p0, 0, none⟩)) ∧ Kept (fun _ => False) wr w1 ∧ Calls Tryz.prog 103 #[.pointer (some ⟨pm, 0, none⟩), .pointer (some ⟨p0, 0, none⟩)] w1 fun e w' => e = .returned (.int .i64 (if m = 0 then 0 else 1)) ∧ Drew w1 w' := by
  obtain ⟨p0, b0, rfl, hp, hi, hk, hb⟩ := hN
  refine ⟨p0, rfl, hk, ?_⟩
  have := Int_Cmp pm p0 _ _ bm b0 [] [] 109 109 w1 (a.old hk) hi (by have := a.lt; omega)
  have e : cmpZ (m : Int) 0 = if m = 0 then 0 else 1 := by
    unfold cmpZ
    split
    · omega
    · split
      · rw [if_neg (by omega)]
      · rw [if_pos (by omega)]
  rwa [e] at this
theorem Drew.old {w w' : World} (h : Drew w w') : Kept (fun _ => False) w w' := h.kept
theorem RSt.start {w w1 w2 : World} {x y p1 p2 : Nat} {bx by_ b1 b2 : Option Nat} {rx ry : List Value} {Tx Ty : TypeId} {n f : Nat} (hx : IntAt w x (n : Int) bx rx Tx) (hy : IntAt w y (f : Int) by_ ry Ty) (hs : Sep x bx y by_)
    (hp1 : w.heap.size ≤ p1) (a1 : IntAt w1 p1 0 b1 [] 109) (k1 : Kept (fun _ => False) w w1) (q1 : ∀ k, b1 = some k → w.heap.size ≤ k) (hp2 : w1.heap.size ≤ p2) (a2 : IntAt w2 p2 0 b2 [] 109) (k2 : Kept (fun _ => False) w1 w2) (q2 : ∀ k, b2 = some k → w1.heap.size ≤ k) :
    RSt w x y bx by_ ry Ty n f 0 x p1 p2 w2 := by
  have k := k1.trans k2 (fun _ _ f => f) (fun _ _ f => f)
  have hw := k1.size
  have p2n : w.heap.size ≤ p2 := by omega
  have q2n : ∀ k, b2 = some k → w.heap.size ≤ k := fun k h => by have := q2 k h; omega
  refine ⟨⟨bx, b1, b2, rx, [], Tx, 109, 0, 0, by rw [Nat.pow_zero, Nat.div_one]; exact hx.old k, a1.old k2, a2, hy.old k, (Sep.fresh hp1 q1 hx.lt hx.lts).symm, (Sep.fresh p2n q2n hx.lt hx.lts).symm, (Sep.fresh hp2 q2 a1.lt a1.lts).symm, hs, Sep.fresh hp1 q1 hy.lt hy.lts, Sep.fresh p2n q2n hy.lt hy.lts, ?_, Mine.new hp1 q1, Mine.new p2n q2n⟩, k.mono (fun _ _ f => f.elim)⟩
  intro k hk _
  exact hk
theorem pow_fits {n f t : Nat} (hn : n < B64) (h0 : n ≠ 0) (hf : 2 ≤ f) (h : f ^ t ∣ n) : t < 64 := by
  rcases Nat.lt_or_ge t 64 with h' | h'
  · exact h'
  · exfalso
    have h1 : f ^ t ≤ n := Nat.le_of_dvd (by omega) h
    have h2 : 2 ^ 64 ≤ f ^ t := Nat.le_trans (Nat.pow_le_pow_left hf 64) (Nat.pow_le_pow_right (by omega) h')
    unfold B64 at hn
    omega
def RmfRes (w : World) (x : Nat) (bx : Option Nat) (n f : Nat) (e : Ending) (w' : World) : Prop :=
  ∃ t p b r T, e = .returned (.tuple #[.pointer (some ⟨p, 0, none⟩), .int .i32 ((t : Nat) : Int)]) ∧ f ^ t ∣ n ∧ n / f ^ t % f ≠ 0 ∧ IntAt w' p ((n / f ^ t : Nat) : Int) b r T ∧ Kept (fun k => k = x ∨ bx = some k) w w' ∧ Mine w x bx p b
set_option maxHeartbeats 1000000 in
theorem removeBigIntFactors_small (x y n f : Nat) (bx by_ : Option Nat) (rx ry : List Value) (Tx Ty : TypeId) (w : World) (hx : IntAt w x (n : Int) bx rx Tx) (hy : IntAt w y (f : Int) by_ ry Ty) (hs : Sep x bx y by_)
    (hn : n < B64) (hn0 : n ≠ 0) (hf : f < B64) (hf2 : 2 ≤ f) :
    Calls Tryz.prog 189 #[.pointer (some ⟨x, 0, none⟩), .pointer (some ⟨y, 0, none⟩)] w (RmfRes w x bx n f) := by
  have HX := Lib.hid hx
  have HY := Lib.hid hy
  have HSP := Lib.hid hs
  clear hx hy hs
  go_enter Tryz.func189, Tryz.ntmps189
  go_wp2_with fail
  refine (NewInt_zero _).mono ?_
  rintro e w1 ⟨p1, b1, rfl, hp1, a1, k1, q1⟩
  have A1 := Lib.hid a1
  have K1 := Lib.hid k1
  have Q1 := Lib.hid q1
  have P1 := Lib.hid hp1
  clear a1 k1 q1 hp1
  go_wp2_with fail
  refine (NewInt_zero _).mono ?_
  rintro e w2 ⟨p2, b2, rfl, hp2, a2, k2, q2⟩
  have H0 := Lib.hid (RSt.start HX.out HY.out HSP.out P1.out A1.out K1.out Q1.out hp2 a2 k2 q2)
  clear a2 k2 q2 hp2 A1 K1 Q1 P1 HX HY HSP
  go_wp2_with fail
  go_loopw [0, 5, 6] (fun d t q wr => ∃ (t' pd pq : Nat), d = .pointer (some ⟨pd, 0, none⟩) ∧ t = .int .i32 (t' : Int) ∧ q = .pointer (some ⟨pq, 0, none⟩) ∧ f ^ t' ∣ n ∧ RSt w x y bx by_ ry Ty n f t' pd pq p2 wr) (fun _ t _ _ => 64 - (intOf t).toNat)
  case atStart => exact ⟨0, x, p1, rfl, rfl, rfl, by simp, H0.out⟩
  case round =>
    obtain ⟨t, pd, pq, rfl, rfl, rfl, hdv, hst⟩ := hrel
    have ht := pow_fits hn hn0 hf2 hdv
    have hnz : n / f ^ t ≠ 0 := by
      have h1 : f ^ t ≤ n := Nat.le_of_dvd (by omega) hdv
      have := Nat.div_pos h1 (Nat.pow_pos (by omega))
      omega
    have HST := Lib.hid hst
    have HDV := Lib.hid hdv
    have HNZ := Lib.hid hnz
    clear hst hdv hnz H0
    go_wp2_with fail
    refine (NewInt_zero _).mono ?_
    intro e w3 h
    obtain ⟨p0, rfl, hst3, hc⟩ := HST.out.cmp0 h HNZ.out
    have HST3 := Lib.hid hst3
    have HC := Lib.hid hc
    clear h hst3 hc
    go_wp2_with fail
    refine HC.out.mono ?_
    rintro e w4 ⟨rfl, hd⟩
    have HST4 := Lib.hid (HST3.out.old hd.old)
    clear hd
    go_wp2_with fail
    refine (HST4.out.divmod hn hf (by omega)).mono ?_
    rintro e w5 ⟨rfl, g1, g2, bm, g3⟩
    have G1 := Lib.hid g1
    have G2 := Lib.hid g2
    have G3 := Lib.hid g3
    clear g1 g2 g3 HC HST3 HST4
    go_wp2_with fail
    refine (NewInt_zero _).mono ?_
    intro e w6 h
    obtain ⟨p6, rfl, hk6, hc⟩ := int_cmp0 G3.out h
    have HK6 := Lib.hid hk6
    have HC := Lib.hid hc
    clear h hk6 hc
    go_wp2_with fail
    refine HC.out.mono ?_
    rintro e w7 ⟨rfl, hd⟩
    have HK7 := Lib.hid (kept_new HK6.out hd.old)
    clear hd HC HK6
    by_cases hz : n / f ^ t % f = 0
    · rw [if_pos hz]
      have HZ := Lib.hid hz
      clear hz
      go_wp2_with fail
      go_roundw
      case rel =>
        refine ⟨t + 1, pq, pd, rfl, by go_num, rfl, ?_, G1.out.old HK7.out⟩
        obtain ⟨c, hc⟩ := HDV.out
        have hz := HZ.out
        rw [hc, Nat.mul_div_cancel_left _ (Nat.pow_pos (by omega))] at hz
        obtain ⟨c', hc'⟩ := Nat.dvd_of_mod_eq_zero hz
        exact ⟨c', by rw [hc, hc', Nat.pow_succ, Nat.mul_assoc]⟩
      case measure => simp [intOf]; omega
    · rw [if_neg hz]
      have HZ := Lib.hid hz
      clear hz
      go_wp2_with fail
      go_ret2
      obtain ⟨⟨bd, bq, bm, rd, rq, Td, Tq, nq, nm, a1, a2, a3, a4, s1, s2, s3, s4, s5, s6, m1, m2, m3⟩, hk⟩ := G2.out.old HK7.out
      exact ⟨t, pd, bd, rd, Td, rfl, HDV.out, HZ.out, a1, hk, m1⟩
end Go.Proofs.YtjebnpkebccffaaGreatDoor
