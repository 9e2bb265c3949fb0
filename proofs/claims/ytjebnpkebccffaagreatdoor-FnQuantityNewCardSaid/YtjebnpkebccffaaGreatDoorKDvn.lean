import Derived.Test.YtjebnpkebccffaaGreatDoorKAvv
import Derived.Test.YtjebnpkebccffaaGreatDoorKDivm
import Derived.Test.YtjebnpkebccffaaGreatDoorKLog
import Derived.Test.YtjebnpkebccffaaGreatDoorKRmf
set_option linter.unusedSimpArgs false
set_option linter.unusedVariables false
set_option linter.unusedSectionVars false
namespace Go.Proofs.YtjebnpkebccffaaGreatDoor
open Go.RowKit
set_option maxHeartbeats 400000 in
theorem intOne_any (w : World) : Calls Tryz.prog 159 #[] w (NewRes w 1) := by
  have hN : ∀ w, Calls Tryz.prog 197 #[] w fun e w' => e = .returned (.slice (some ⟨w.heap.size, 0, none⟩) 1 1) ∧ w' = w.alloc (.cells #[.int .u64 1] 165) := by
    intro w
    go_enter Tryz.func197, Tryz.ntmps197
    go_wp2_with fail
    go_ret
    exact ⟨rfl, rfl⟩
  have HN := Lib.hid hN
  have HF : Hid (NewRes w 1 (.returned (.pointer (some ⟨w.heap.size + 1, 0, none⟩))) ((w.alloc (.cells #[.int .u64 1] 165)).alloc (.cells #[.bool false, .slice (some ⟨w.heap.size, 0, none⟩) 1 1] 109))) := by
    have e2 : (w.alloc (.cells #[.int .u64 1] 165)).heap.size = w.heap.size + 1 := by simp
    have hb := heap_alloc_new w (.cells #[.int .u64 1] 165)
    have hb2 := heap_alloc_new (w.alloc (.cells #[.int .u64 1] 165)) (.cells #[.bool false, .slice (some ⟨w.heap.size, 0, none⟩) 1 1] 109)
    rw [e2] at hb2
    have hd : dig 1 = [1] := dig_one (by omega) (by unfold B64; omega)
    refine ⟨w.heap.size + 1, some w.heap.size, rfl, by omega, ⟨.slice (some ⟨w.heap.size, 0, none⟩) 1 1, hb2, ⟨#[.int .u64 1], ?_, ?_, ?_, by simp, by simp, ?_⟩, by simp⟩, ((Kept.refl _ _).alloc _).alloc _, ?_⟩
    · show Value.slice _ 1 1 = Value.slice _ (dig (Int.natAbs 1)).length 1
      rw [show Int.natAbs 1 = 1 from rfl, hd]; rfl
    · rw [Below.heap_alloc _ _ _ (by simp)]; exact hb
    · rw [show Int.natAbs 1 = 1 from rfl, hd]; simp
    · rw [show Int.natAbs 1 = 1 from rfl, hd]
      intro i hi
      simp at hi
      subst hi
      rfl
    · intro k hk; injection hk with hk; omega
  clear hN
  go_enter Tryz.func159, Tryz.ntmps159
  go_wp2_with fail
  refine (HN.out _).mono ?_
  rintro e w1 ⟨rfl, rfl⟩
  go_wp2_with fail
  go_ret
  have := HF.out
  simpa using this
set_option maxRecDepth 100000 in
set_option maxHeartbeats 2000000 in
theorem Int_DivMod_zero (z x y r : Nat) (nz n m nr : Int) (bz bx by_ br : Option Nat) (rz rx ry rr : List Value) (Tz Tx Ty Tr : TypeId) (w : World) (hz : IntAt w z nz bz rz Tz) (hx : IntAt w x n bx rx Tx) (hy : IntAt w y m by_ ry Ty) (hr : IntAt w r nr br rr Tr)
    (hzx : z ≠ x) (hzy : z ≠ y) (hrx : r ≠ x) (hry : r ≠ y) (hzr : z ≠ r) (hb : bz ≠ some x ∧ bz ≠ some y ∧ bz ≠ some r ∧ br ≠ some x ∧ br ≠ some y ∧ br ≠ some z) (hap : ∀ k, bz = some k → by_ ≠ some k)
    (hn0 : n.tmod m = 0) (hm0 : 0 < m)
    (hdiv : ∀ (W : World) (vz vr vx vy : Value), NatAt W vz nz.natAbs bz → NatAt W vr nr.natAbs br → NatAt W vx n.natAbs bx → NatAt W vy m.natAbs by_ → Calls Tryz.prog 196 #[vz, .pointer none, vr, vx, vy] W (QR W bz br (quoN n.natAbs m.natAbs) (remN n.natAbs m.natAbs))) :
    Calls Tryz.prog 119 #[.pointer (some ⟨z, 0, none⟩), .pointer (some ⟨x, 0, none⟩), .pointer (some ⟨y, 0, none⟩), .pointer (some ⟨r, 0, none⟩)] w (QRRes w z r bz br (n.tdiv m) (n.tmod m) rz rr Tz Tr) := by
  have HQ : Hid (∀ k, Calls Tryz.prog 158 #[.pointer (some ⟨z, 0, none⟩), .pointer (some ⟨x, 0, none⟩), .pointer (some ⟨y, 0, none⟩), .pointer (some ⟨r, 0, none⟩)] (w.drewN k) (QRRes (w.drewN k) z r bz br (n.tdiv m) (n.tmod m) rz rr Tz Tr)) :=
    fun k => Int_QuoRem_of z x y r nz n m nr bz bx by_ br rz rx ry rr Tz Tx Ty Tr (w.drewN k) (hz.drewN k) (hx.drewN k) (hy.drewN k) (hr.drewN k) hzx hzy hrx hry hzr hb (by omega) hdiv
  obtain ⟨vz, hz1, hz2, hz3⟩ := hz
  obtain ⟨vy, hy1, hy2, hy3⟩ := hy
  have hq := fun n => ptr_int_other (w := w.drewN n) hzy hz1 hy1
  obtain ⟨cz0, cz1, fz0, fz1⟩ := int_cells hz1
  obtain ⟨cy0, cy1, _, _⟩ := int_cells hy1
  have hal := fun n => alias_any vz vy bz by_ (w.drewN n) (by exact hz2.buf) (by exact hy2.buf)
  rw [aliasB_false hap] at hal
  have HAL := Lib.hid hal
  have hs : (∀ e w', QRRes w z r bz br (n.tdiv m) (n.tmod m) rz rr Tz Tr e w' → w'.cell? ⟨r, 0, none⟩ = some (.bool false)) := by
    intro e w' ⟨_, bq, bs, _, ⟨v, h1, _, _⟩, _⟩
    have : ¬ (n.tmod m < 0) := by omega
    rw [decF this] at h1
    exact (int_cells h1).1
  have HS := Lib.hid hs
  clear hz1 hz2 hy1 hy2 hal hs hx hr hdiv
  go_enter Tryz.func119, Tryz.ntmps119
  go_wp2_with fail
  go_quiet ((go_at_call 133; first | exact quiet_add (HAL.out _) | exact quiet_one (HAL.out _)))
  go_wp2_with fail
  refine (HQ.out _).mono ?_
  rintro e w2 h
  have h := h.undrew
  have c := HS.out _ _ h
  have he := h.1
  subst he
  have H := Lib.hid h
  clear h HS HQ HAL cz0 cz1 fz0 fz1 cy0 cy1
  go_wp2_with fail
  go_ret2
  exact H.out
set_option maxRecDepth 100000 in
set_option maxHeartbeats 2000000 in
theorem Int_DivMod_rest (z x y r : Nat) (nz n m nr : Int) (bz bx by_ br : Option Nat) (rz rx ry rr : List Value) (Tz Tx Ty Tr : TypeId) (w : World) (hz : IntAt w z nz bz rz Tz) (hx : IntAt w x n bx rx Tx) (hy : IntAt w y m by_ ry Ty) (hr : IntAt w r nr br rr Tr)
    (hzx : z ≠ x) (hzy : z ≠ y) (hrx : r ≠ x) (hry : r ≠ y) (hzr : z ≠ r) (hb : bz ≠ some x ∧ bz ≠ some y ∧ bz ≠ some r ∧ br ≠ some x ∧ br ≠ some y ∧ br ≠ some z) (hap : ∀ k, bz = some k → by_ ≠ some k)
    (hapr : ∀ k, br = some k → by_ ≠ some k) (hbyz : by_ ≠ some z) (hbyr : by_ ≠ some r) (Q R f Q1 R1 : Nat) (hQ : n.tdiv m = -(Q : Int)) (hR : n.tmod m = -(R : Int)) (hf : m = (f : Int)) (hQ1 : Q + 1 = Q1) (hR1 : f - R = R1) (hq0 : Q ≠ 0) (hr0 : R ≠ 0) (hqw : Q < B64) (hfw : f < B64) (hrf : R < f) (hm0 : 0 < m)
    (hdiv : ∀ (W : World) (vz vr vx vy : Value), NatAt W vz nz.natAbs bz → NatAt W vr nr.natAbs br → NatAt W vx n.natAbs bx → NatAt W vy m.natAbs by_ → Calls Tryz.prog 196 #[vz, .pointer none, vr, vx, vy] W (QR W bz br (quoN n.natAbs m.natAbs) (remN n.natAbs m.natAbs))) :
    Calls Tryz.prog 119 #[.pointer (some ⟨z, 0, none⟩), .pointer (some ⟨x, 0, none⟩), .pointer (some ⟨y, 0, none⟩), .pointer (some ⟨r, 0, none⟩)] w (QRRes w z r bz br (-(Q1 : Int)) (R1 : Int) rz rr Tz Tr) := by
  have HQ : Hid (∀ k, Calls Tryz.prog 158 #[.pointer (some ⟨z, 0, none⟩), .pointer (some ⟨x, 0, none⟩), .pointer (some ⟨y, 0, none⟩), .pointer (some ⟨r, 0, none⟩)] (w.drewN k) (QRRes (w.drewN k) z r bz br (n.tdiv m) (n.tmod m) rz rr Tz Tr)) :=
    fun k => Int_QuoRem_of z x y r nz n m nr bz bx by_ br rz rx ry rr Tz Tx Ty Tr (w.drewN k) (hz.drewN k) (hx.drewN k) (hy.drewN k) (hr.drewN k) hzx hzy hrx hry hzr hb (by omega) hdiv
  rw [hQ, hR] at HQ
  have hy0 : IntAt w y (f : Int) by_ ry Ty := by rw [← hf]; exact hy
  have hzl := hz.lts
  have hrl := hr.lts
  have hzw := hz.lt
  have hrw := hr.lt
  have hyw := hy.lt
  have hyl := hy.lts
  obtain ⟨vz, hz1, hz2, hz3⟩ := hz
  obtain ⟨vy, hy1, hy2, hy3⟩ := hy
  have hq := fun n => ptr_int_other (w := w.drewN n) hzy hz1 hy1
  obtain ⟨cz0, cz1, fz0, fz1⟩ := int_cells hz1
  obtain ⟨cy0, cy1, _, _⟩ := int_cells hy1
  have hal := fun n => alias_any vz vy bz by_ (w.drewN n) (by exact hz2.buf) (by exact hy2.buf)
  rw [aliasB_false hap] at hal
  have HAL := Lib.hid hal
  have hs : (∀ e w', QRRes w z r bz br (-(Q : Int)) (-(R : Int)) rz rr Tz Tr e w' → w'.cell? ⟨r, 0, none⟩ = some (.bool true) ∧ w'.cell? ⟨y, 0, none⟩ = some (.bool false) ∧ IntAt w' y (f : Int) by_ ry Ty) := by
    intro e w' ⟨_, bq, bs, _, ⟨v, h1, _, _⟩, hk, _⟩
    have hy' : IntAt w' y (f : Int) by_ ry Ty := hy0.kept hk (by
      rintro (h | h | h | h)
      · exact hzy h.symm
      · exact hry h.symm
      · exact hb.2.1 h
      · exact hb.2.2.2.2.1 h) (fun j hj => by
      rintro (h | h | h | h)
      · subst h; exact hbyz hj
      · subst h; exact hbyr hj
      · exact hap j h hj
      · exact hapr j h hj)
    rw [decT (show -(R : Int) < 0 by omega)] at h1
    obtain ⟨vy', hy1', _, _⟩ := id hy'
    rw [decF (show ¬ (f : Int) < 0 by omega)] at hy1'
    exact ⟨(int_cells h1).1, (int_cells hy1').1, hy'⟩
  have HS := Lib.hid hs
  have HB := Lib.hid hb
  clear hz1 hz2 hy1 hy2 hal hs hx hr hdiv hy0 hQ hR hf hb
  go_enter Tryz.func119, Tryz.ntmps119
  go_wp2_with fail
  go_quiet ((go_at_call 133; first | exact quiet_add (HAL.out _) | exact quiet_one (HAL.out _)))
  go_wp2_with fail
  refine (HQ.out _).mono ?_
  rintro e w2 h
  have h := h.undrew
  obtain ⟨c, cy, ay⟩ := HS.out _ _ h
  obtain ⟨rfl, bq, bs, az, ar, kz, oz, os_, hap2⟩ := h
  have AY := Lib.hid ay
  have AZ := Lib.hid az
  have AR := Lib.hid ar
  have KZ := Lib.hid kz
  have OZ := Lib.hid oz
  have OS := Lib.hid os_
  have HAP := Lib.hid hap2
  clear HS HQ HAL cz0 cz1 fz0 fz1 cy0 cy1 ay az ar kz oz os_ hap2
  go_wp2_with fail
  refine (intOne_any w2).mono ?_
  rintro e w3 ⟨p1, b1, rfl, hp1, a1, k1, q1⟩
  have A1 := Lib.hid a1
  have K1 := Lib.hid k1
  have AZ3 := Lib.hid (AZ.out.old k1)
  have hzlt := AZ.out.lt
  have hrlt := AR.out.lt
  have hylt := AY.out.lt
  have hzls := AZ.out.lts
  have hne1 : Hid (z ≠ p1) := by intro e; omega
  have hne2 : Hid (bq ≠ some p1) := by intro e; have := hzls _ e; omega
  have P1 := Lib.hid hp1
  have Q1' := Lib.hid q1
  clear a1 k1 q1 hp1
  go_wp2_with fail
  refine (Int_Sub_neg z p1 Q 1 bq b1 rz [] Tz 109 w3 AZ3.out A1.out hne1.out hne2.out hq0 (by omega) (by rw [dig_one hq0 hqw, dig_one (by omega) (by unfold B64; omega)]; rfl) (Sm.one hqw)).mono ?_
  rw [hQ1]
  rintro e w4 ⟨rfl, bq', az4, kz4, oz4⟩
  have AZ4 := Lib.hid az4
  have OZ4 := Lib.hid oz4
  have k24 : Kept (fun k => k = z ∨ bq = some k) w2 w4 := K1.out.trans kz4 (fun _ _ f => f.elim) (fun _ _ h => h)
  have K24 := Lib.hid k24
  have hbsy : bs ≠ some y := own_ne OS.out hyw HB.out.2.2.2.2.1
  have hbsz : bs ≠ some z := own_ne OS.out hzw HB.out.2.2.2.2.2
  have hbqr : bq ≠ some r := own_ne OZ.out hrw HB.out.2.2.1
  have hbqy : bq ≠ some y := own_ne OZ.out hyw HB.out.2.1
  have AR4 : Hid (IntAt w4 r (-(R : Int)) bs rr Tr) := AR.out.kept k24 (by
    rintro (h | h)
    · exact hzr h.symm
    · exact hbqr h) (fun k hk => by
    rintro (h | h)
    · subst h; exact hbsz hk
    · exact HAP.out k h hk)
  have AY4 : Hid (IntAt w4 y (f : Int) by_ ry Ty) := AY.out.kept k24 (by
    rintro (h | h)
    · exact hzy h.symm
    · exact hbqy h) (fun k hk => by
    rintro (h | h)
    · subst h; exact hbyz hk
    · rcases OZ.out with h' | ⟨j, h', hj⟩
      · rw [h'] at h; exact hap k h hk
      · rw [h] at h'; injection h' with h'; have := hyl k hk; omega)
  clear az4 kz4 oz4 k24
  go_wp2_with fail
  refine (Int_Add_neg r y R f bs by_ rr ry Tr Ty w4 AR4.out AY4.out hry hbsy hr0 (by omega) (by rw [dig_one hr0 (by omega), dig_one (by omega) hfw]; rfl) (Sm.one (by omega)) hrf).mono ?_
  rw [hR1]
  rintro e w5 ⟨rfl, bs', ar5, kr5, or5⟩
  have HFIN : Hid (QRRes w z r bz br (-(Q1 : Int)) (R1 : Int) rz rr Tz Tr (.returned (.tuple #[.pointer (some ⟨z, 0, none⟩), .pointer (some ⟨r, 0, none⟩)])) w5) := by
    have hsz : w.heap.size ≤ w2.heap.size := KZ.out.size
    have hs3 : w2.heap.size ≤ w3.heap.size := K1.out.size
    have hs4 : w2.heap.size ≤ w4.heap.size := K24.out.size
    have hx : ∀ k, bq' = some k → k ≠ r ∧ bs ≠ some k := by
      intro k hk
      rcases OZ4.out with h' | ⟨j, h', hj⟩
      · rw [h'] at hk
        exact ⟨fun e => hbqr (by rw [hk, e]), HAP.out k hk⟩
      · rw [hk] at h'; injection h' with h'
        exact ⟨by omega, fun e => by have := AR.out.lts k e; omega⟩
    have az5 : IntAt w5 z (-(Q1 : Int)) bq' rz Tz := AZ4.out.kept kr5 (by
      rintro (h | h)
      · exact hzr h
      · exact hbsz h) (fun k hk => by
      rintro (h | h)
      · exact (hx k hk).1 h
      · exact (hx k hk).2 h)
    refine ⟨rfl, bq', bs', az5, ar5, ?_, own_trans OZ.out OZ4.out (by omega), own_trans OS.out or5 (by omega), ?_⟩
    · refine (KZ.out.trans K24.out (fun _ _ h => h) (fun i hi h => ?_)).trans kr5 (fun _ _ h => h) (fun i hi h => ?_)
      · rcases h with h | h
        · exact Or.inl h
        · rcases OZ.out with h' | ⟨j, h', hj⟩
          · exact Or.inr (Or.inr (Or.inl (by rw [← h', h])))
          · rw [h] at h'; injection h' with h'; omega
      · rcases h with h | h
        · exact Or.inr (Or.inl h)
        · rcases OS.out with h' | ⟨j, h', hj⟩
          · exact Or.inr (Or.inr (Or.inr (by rw [← h', h])))
          · rw [h] at h'; injection h' with h'; omega
    · intro k hk e
      rcases or5 with h' | ⟨j, h', hj⟩
      · rw [h'] at e; exact (hx k hk).2 e
      · rw [e] at h'; injection h' with h'; have := AZ4.out.lts k hk; omega
  clear ar5 kr5 or5
  go_wp2_with fail
  go_ret2
  exact HFIN.out
end Go.Proofs.YtjebnpkebccffaaGreatDoor
namespace Go.Proofs.YtjebnpkebccffaaGreatDoor
open Go.RowKit
structure RSn (w : World) (x y : Nat) (bx by_ : Option Nat) (ry : List Value) (Ty : TypeId) (n f t pd pq pm : Nat) (wr : World) : Prop where
  ex : ∃ bd bq bm rd rq Td Tq nq nm, IntAt wr pd (-((n / f ^ t : Nat) : Int)) bd rd Td ∧ IntAt wr pq nq bq rq Tq ∧ IntAt wr pm nm bm [] 109 ∧ IntAt wr y (f : Int) by_ ry Ty ∧
    Sep pd bd pq bq ∧ Sep pd bd pm bm ∧ Sep pq bq pm bm ∧ Sep pd bd y by_ ∧ Sep pq bq y by_ ∧ Sep pm bm y by_ ∧
    Mine w x bx pd bd ∧ Mine w x bx pq bq ∧ Mine w x bx pm bm
  kept : Kept (fun k => k = x ∨ bx = some k) w wr
theorem RSn.old {w : World} {x y : Nat} {bx by_ : Option Nat} {ry : List Value} {Ty : TypeId} {n f t pd pq pm : Nat} {wr wr' : World} (h : RSn w x y bx by_ ry Ty n f t pd pq pm wr) (k : Kept (fun _ => False) wr wr') : RSn w x y bx by_ ry Ty n f t pd pq pm wr' := by
  obtain ⟨⟨bd, bq, bm, rd, rq, Td, Tq, nq, nm, a1, a2, a3, a4, rest⟩, hk⟩ := h
  exact ⟨⟨bd, bq, bm, rd, rq, Td, Tq, nq, nm, a1.old k, a2.old k, a3.old k, a4.old k, rest⟩, kept_new hk k⟩
theorem RSn.divmod {w : World} {x y : Nat} {bx by_ : Option Nat} {ry : List Value} {Ty : TypeId} {n f t pd pq pm : Nat} {wr : World} (h : RSn w x y bx by_ ry Ty n f t pd pq pm wr) (hn : n < B64) (hf : f < B64) (hf0 : f ≠ 0) (hq0 : n / f ^ t / f ≠ 0) :
    Calls Tryz.prog 119 #[.pointer (some ⟨pq, 0, none⟩), .pointer (some ⟨pd, 0, none⟩), .pointer (some ⟨y, 0, none⟩), .pointer (some ⟨pm, 0, none⟩)] wr fun e w' =>
      e = .returned (.tuple #[.pointer (some ⟨pq, 0, none⟩), .pointer (some ⟨pm, 0, none⟩)]) ∧ (n / f ^ t % f = 0 → RSn w x y bx by_ ry Ty n f (t + 1) pq pd pm w') ∧ RSn w x y bx by_ ry Ty n f t pd pq pm w' ∧ ∃ bm M, (M = 0 ↔ n / f ^ t % f = 0) ∧ IntAt w' pm ((M : Nat) : Int) bm [] 109 := by
  obtain ⟨⟨bd, bq, bm, rd, rq, Td, Tq, nq, nm, a1, a2, a3, a4, s1, s2, s3, s4, s5, s6, m1, m2, m3⟩, hk⟩ := h
  have hNw : n / f ^ t < B64 := Nat.lt_of_le_of_lt (Nat.div_le_self _ _) hn
  have eq1 : (-((n / f ^ t : Nat) : Int)).tdiv (f : Int) = -((n / f ^ t / f : Nat) : Int) := by rw [Int.neg_tdiv]; rfl
  have eq2 : (-((n / f ^ t : Nat) : Int)).tmod (f : Int) = -((n / f ^ t % f : Nat) : Int) := by rw [Int.neg_tmod]; rfl
  have hmod := Nat.mod_lt (n / f ^ t) (show 0 < f by omega)
  have e : n / f ^ t / f = n / f ^ (t + 1) := by rw [Nat.div_div_eq_div_mul, Nat.pow_succ]
  have hdw := div_word_small (Int.natAbs nq) (Int.natAbs nm) (n / f ^ t) f bq bm bd by_ hNw hf hf0 s3.2.2.2
  have key : ∃ Q M : Nat, (M = 0 ↔ n / f ^ t % f = 0) ∧ (n / f ^ t % f = 0 → Q = n / f ^ (t + 1)) ∧ Calls Tryz.prog 119 #[.pointer (some ⟨pq, 0, none⟩), .pointer (some ⟨pd, 0, none⟩), .pointer (some ⟨y, 0, none⟩), .pointer (some ⟨pm, 0, none⟩)] wr (QRRes wr pq pm bq bm (-(Q : Int)) (M : Int) rq [] Tq 109) := by
    have hs1 := s1.symm
    have hs2 := s2.symm
    by_cases hz : n / f ^ t % f = 0
    · refine ⟨n / f ^ t / f, 0, by simp [hz], fun _ => e, ?_⟩
      have := Int_DivMod_zero pq pd y pm nq (-((n / f ^ t : Nat) : Int)) (f : Int) nm bq bd by_ bm rq rd ry [] Tq Td Ty 109 wr a2 a1 a4 a3 hs1.1 s5.1 hs2.1 s6.1 s3.1 ⟨hs1.2.1, s5.2.1, s3.2.1, hs2.2.1, s6.2.1, s3.2.2.1⟩ s5.2.2.2 (by rw [eq2, hz]; rfl) (by omega)
        (by rw [Int.natAbs_neg, Int.natAbs_natCast, Int.natAbs_natCast]; exact hdw)
      rw [eq1, eq2, hz] at this
      exact this
    · refine ⟨n / f ^ t / f + 1, f - n / f ^ t % f, by omega, fun h => absurd h hz, ?_⟩
      exact Int_DivMod_rest pq pd y pm nq (-((n / f ^ t : Nat) : Int)) (f : Int) nm bq bd by_ bm rq rd ry [] Tq Td Ty 109 wr a2 a1 a4 a3 hs1.1 s5.1 hs2.1 s6.1 s3.1 ⟨hs1.2.1, s5.2.1, s3.2.1, hs2.2.1, s6.2.1, s3.2.2.1⟩ s5.2.2.2 s6.2.2.2 s5.2.2.1 s6.2.2.1
        (n / f ^ t / f) (n / f ^ t % f) f _ _ eq1 eq2 rfl rfl rfl hq0 hz (Nat.lt_of_le_of_lt (Nat.div_le_self _ _) hNw) hf hmod (by omega)
        (by rw [Int.natAbs_neg, Int.natAbs_natCast, Int.natAbs_natCast]; exact hdw)
  obtain ⟨Q, M, hM, hQ, hc⟩ := key
  refine hc.mono ?_
  rintro e w' ⟨rfl, bq', bm', c1, c2, ck, o1, o2, hap⟩
  have hlt1 := a1.lt
  have hlt4 := a4.lt
  have k1 : IntAt w' pd (-((n / f ^ t : Nat) : Int)) bd rd Td := a1.kept ck (by
    rintro (h | h | h | h)
    · exact s1.1 h
    · exact s2.1 h
    · exact s1.2.2.1 h
    · exact s2.2.2.1 h) (fun k hk => by
    rintro (h | h | h | h)
    · subst h; exact s1.2.1 hk
    · subst h; exact s2.2.1 hk
    · exact s1.2.2.2 k hk h
    · exact s2.2.2.2 k hk h)
  have k4 : IntAt w' y (f : Int) by_ ry Ty := a4.kept ck (by
    rintro (h | h | h | h)
    · exact s5.1 h.symm
    · exact s6.1 h.symm
    · exact s5.2.1 h
    · exact s6.2.1 h) (fun k hk => by
    rintro (h | h | h | h)
    · subst h; exact s5.2.2.1 hk
    · subst h; exact s6.2.2.1 hk
    · exact s5.2.2.2 k h hk
    · exact s6.2.2.2 k h hk)
  have t1 : Sep pq bq' pd bd := s1.symm.own o1 a1.lt a1.lts
  have t2 : Sep pm bm' pd bd := s2.symm.own o2 a1.lt a1.lts
  have t5 : Sep pq bq' y by_ := s5.own o1 a4.lt a4.lts
  have t6 : Sep pm bm' y by_ := s6.own o2 a4.lt a4.lts
  have t3 : Sep pq bq' pm bm' := by
    refine ⟨s3.1, own_ne o1 a3.lt s3.2.1, own_ne o2 a2.lt s3.2.2.1, hap⟩
  have hk' : Kept (fun k => k = x ∨ bx = some k) w w' := hk.trans ck (fun _ _ h => h) (fun i hi h => by
    rcases h with h | h | h | h
    · exact m2 i (Or.inl h) hi
    · exact m3 i (Or.inl h) hi
    · exact m2 i (Or.inr h) hi
    · exact m3 i (Or.inr h) hi)
  have n2 := m2.own o1 hk.size
  have n3 := m3.own o2 hk.size
  refine ⟨rfl, fun hz => ⟨⟨bq', bd, bm', rq, rd, Tq, Td, _, _, by rw [← hQ hz]; exact c1, k1, c2, k4, t1, t3, t2.symm, t5, s4, t6, n2, m1, n3⟩, hk'⟩, ⟨⟨bd, bq', bm', rd, rq, Td, Tq, _, _, k1, c1, c2, k4, t1.symm, t2.symm, t3, s4, t5, t6, m1, n2, n3⟩, hk'⟩, bm', M, hM, c2⟩
theorem RSn.cmp0 {w : World} {x y : Nat} {bx by_ : Option Nat} {ry : List Value} {Ty : TypeId} {n f t pd pq pm : Nat} {wr w1 : World} (h : RSn w x y bx by_ ry Ty n f t pd pq pm wr) {e : Ending} (hN : NewRes wr 0 e w1) (hv : n / f ^ t ≠ 0) :
    ∃ p0, e = .returned (.pointer (some ⟨p0, 0, none⟩)) ∧ RSn w x y bx by_ ry Ty n f t pd pq pm w1 ∧ Calls Tryz.prog 103 #[.pointer (some ⟨pd, 0, none⟩), .pointer (some ⟨p0, 0, none⟩)] w1 fun e w' => e = .returned (.int .i64 (-1)) ∧ Drew w1 w' := by
  obtain ⟨p0, b0, rfl, hp, hi, hk, hb⟩ := hN
  have h' := h.old hk
  obtain ⟨⟨bd, bq, bm, rd, rq, Td, Tq, nq, nm, a1, a2, a3, a4, s1, s2, s3, s4, s5, s6, m1, m2, m3⟩, hk0⟩ := h
  refine ⟨p0, rfl, h', ?_⟩
  have := Int_Cmp pd p0 _ _ bd b0 rd [] Td 109 w1 (a1.old hk) hi (by have := a1.lt; omega)
  have e : cmpZ (-((n / f ^ t : Nat) : Int)) 0 = -1 := by
    generalize n / f ^ t = q at hv ⊢
    unfold cmpZ
    rw [if_pos (by omega)]
  rwa [e] at this
theorem RSn.start {w w1 w2 : World} {x y p1 p2 : Nat} {bx by_ b1 b2 : Option Nat} {rx ry : List Value} {Tx Ty : TypeId} {n f : Nat} (hx : IntAt w x (-(n : Int)) bx rx Tx) (hy : IntAt w y (f : Int) by_ ry Ty) (hs : Sep x bx y by_)
    (hp1 : w.heap.size ≤ p1) (a1 : IntAt w1 p1 0 b1 [] 109) (k1 : Kept (fun _ => False) w w1) (q1 : ∀ k, b1 = some k → w.heap.size ≤ k) (hp2 : w1.heap.size ≤ p2) (a2 : IntAt w2 p2 0 b2 [] 109) (k2 : Kept (fun _ => False) w1 w2) (q2 : ∀ k, b2 = some k → w1.heap.size ≤ k) :
    RSn w x y bx by_ ry Ty n f 0 x p1 p2 w2 := by
  have k := k1.trans k2 (fun _ _ f => f) (fun _ _ f => f)
  have hw := k1.size
  have p2n : w.heap.size ≤ p2 := by omega
  have q2n : ∀ k, b2 = some k → w.heap.size ≤ k := fun k h => by have := q2 k h; omega
  refine ⟨⟨bx, b1, b2, rx, [], Tx, 109, 0, 0, by rw [Nat.pow_zero, Nat.div_one]; exact hx.old k, a1.old k2, a2, hy.old k, (Sep.fresh hp1 q1 hx.lt hx.lts).symm, (Sep.fresh p2n q2n hx.lt hx.lts).symm, (Sep.fresh hp2 q2 a1.lt a1.lts).symm, hs, Sep.fresh hp1 q1 hy.lt hy.lts, Sep.fresh p2n q2n hy.lt hy.lts, ?_, Mine.new hp1 q1, Mine.new p2n q2n⟩, k.mono (fun _ _ f => f.elim)⟩
  intro k hk _
  exact hk
def RmnRes (w : World) (x : Nat) (bx : Option Nat) (n f : Nat) (e : Ending) (w' : World) : Prop :=
  ∃ t p b r T, e = .returned (.tuple #[.pointer (some ⟨p, 0, none⟩), .int .i32 ((t : Nat) : Int)]) ∧ f ^ t ∣ n ∧ n / f ^ t % f ≠ 0 ∧ IntAt w' p (-((n / f ^ t : Nat) : Int)) b r T ∧ Kept (fun k => k = x ∨ bx = some k) w w' ∧ Mine w x bx p b
set_option maxHeartbeats 1000000 in
theorem removeBigIntFactors_neg (x y n f : Nat) (bx by_ : Option Nat) (rx ry : List Value) (Tx Ty : TypeId) (w : World) (hx : IntAt w x (-(n : Int)) bx rx Tx) (hy : IntAt w y (f : Int) by_ ry Ty) (hs : Sep x bx y by_)
    (hn : n < B64) (hn0 : n ≠ 0) (hf : f < B64) (hf2 : 2 ≤ f) (hbig : ∀ t, f ^ t ∣ n → n / f ^ t / f ≠ 0) :
    Calls Tryz.prog 189 #[.pointer (some ⟨x, 0, none⟩), .pointer (some ⟨y, 0, none⟩)] w (RmnRes w x bx n f) := by
  have HX := Lib.hid hx
  have HY := Lib.hid hy
  have HSP := Lib.hid hs
  clear hx hy hs
  go_enter Tryz.func189, Tryz.ntmps189
  go_wp2_with fail
  refine (NewInt_zero _).mono ?_
  rintro e w1 ⟨p1, b1, rfl, hp1, a1, k1, q1⟩
  have A1 := Lib.hid a1
  have K1 := Lib.hid k1
  have Q1 := Lib.hid q1
  have P1 := Lib.hid hp1
  clear a1 k1 q1 hp1
  go_wp2_with fail
  refine (NewInt_zero _).mono ?_
  rintro e w2 ⟨p2, b2, rfl, hp2, a2, k2, q2⟩
  have H0 := Lib.hid (RSn.start HX.out HY.out HSP.out P1.out A1.out K1.out Q1.out hp2 a2 k2 q2)
  clear a2 k2 q2 hp2 A1 K1 Q1 P1 HX HY HSP
  go_wp2_with fail
  go_loopw [0, 5, 6] (fun d t q wr => ∃ (t' pd pq : Nat), d = .pointer (some ⟨pd, 0, none⟩) ∧ t = .int .i32 (t' : Int) ∧ q = .pointer (some ⟨pq, 0, none⟩) ∧ f ^ t' ∣ n ∧ RSn w x y bx by_ ry Ty n f t' pd pq p2 wr) (fun _ t _ _ => 64 - (intOf t).toNat)
  case atStart => exact ⟨0, x, p1, rfl, rfl, rfl, by simp, H0.out⟩
  case round =>
    obtain ⟨t, pd, pq, rfl, rfl, rfl, hdv, hst⟩ := hrel
    have ht := pow_fits hn hn0 hf2 hdv
    have hnz : n / f ^ t ≠ 0 := by
      have h1 : f ^ t ≤ n := Nat.le_of_dvd (by omega) hdv
      have := Nat.div_pos h1 (Nat.pow_pos (by omega))
      omega
    have HST := Lib.hid hst
    have HDV := Lib.hid hdv
    have HNZ := Lib.hid hnz
    clear hst hdv hnz H0
    go_wp2_with fail
    refine (NewInt_zero _).mono ?_
    intro e w3 h
    obtain ⟨p0, rfl, hst3, hc⟩ := HST.out.cmp0 h HNZ.out
    have HST3 := Lib.hid hst3
    have HC := Lib.hid hc
    clear h hst3 hc
    go_wp2_with fail
    refine HC.out.mono ?_
    rintro e w4 ⟨rfl, hd⟩
    have HST4 := Lib.hid (HST3.out.old hd.old)
    clear hd
    go_wp2_with fail
    refine (HST4.out.divmod hn hf (by omega) (hbig t HDV.out)).mono ?_
    rintro e w5 ⟨rfl, g1, g2, bm, M, hM, g3⟩
    have G1 := Lib.hid g1
    have G2 := Lib.hid g2
    have G3 := Lib.hid g3
    have HMM := Lib.hid hM
    clear g1 g2 g3 hM HC HST3 HST4
    go_wp2_with fail
    refine (NewInt_zero _).mono ?_
    intro e w6 h
    obtain ⟨p6, rfl, hk6, hc⟩ := int_cmp0 G3.out h
    have HK6 := Lib.hid hk6
    have HC := Lib.hid hc
    clear h hk6 hc
    go_wp2_with fail
    refine HC.out.mono ?_
    rintro e w7 ⟨rfl, hd⟩
    have HK7 := Lib.hid (kept_new HK6.out hd.old)
    clear hd HC HK6
    by_cases hz : n / f ^ t % f = 0
    · rw [if_pos (HMM.out.2 hz)]
      have HZ := Lib.hid hz
      clear hz
      go_wp2_with fail
      go_roundw
      case rel =>
        refine ⟨t + 1, pq, pd, rfl, by go_num, rfl, ?_, (G1.out HZ.out).old HK7.out⟩
        obtain ⟨c, hc⟩ := HDV.out
        have hz := HZ.out
        rw [hc, Nat.mul_div_cancel_left _ (Nat.pow_pos (by omega))] at hz
        obtain ⟨c', hc'⟩ := Nat.dvd_of_mod_eq_zero hz
        exact ⟨c', by rw [hc, hc', Nat.pow_succ, Nat.mul_assoc]⟩
      case measure => simp [intOf]; omega
    · rw [if_neg (fun h => hz (HMM.out.1 h))]
      have HZ := Lib.hid hz
      clear hz
      go_wp2_with fail
      go_ret2
      obtain ⟨⟨bd, bq, bm, rd, rq, Td, Tq, nq, nm, a1, a2, a3, a4, s1, s2, s3, s4, s5, s6, m1, m2, m3⟩, hk⟩ := G2.out.old HK7.out
      exact ⟨t, pd, bd, rd, Td, rfl, HDV.out, HZ.out, a1, hk, m1⟩
end Go.Proofs.YtjebnpkebccffaaGreatDoor
