import Derived.Test.YtjebnpkebccffaaGreatDoorJTim
import Derived.Test.YtjebnpkebccffaaGreatDoorJQwr
set_option linter.unusedSimpArgs false
set_option linter.unusedVariables false
set_option linter.unusedSectionVars false
namespace Go.Proofs.YtjebnpkebccffaaGreatDoor
open Go.RowKit
open Go.Proofs.YtjebnpkebccffaaGreatDoorW.PrintLast
/-! ### QuantityMeans (printed by qme.py) -/
theorem nd_b {neg : Bool} {N : Nat} {e : Int} {L : Nat} {K : Int} (h : N < 10 ^ L) (h3 : -K ≤ e) (h4 : e ≤ K) : DmB (nd neg N e) L (K + L) := decL_b (dgs_le L N h).2 (dgs_le L N h).1 h3 h4
theorem nd_mul (n1 n2 : Bool) (N1 N2 : Nat) (e1 e2 : Int) : nd ((nd n1 N1 e1).neg != (nd n2 N2 e2).neg) (dv (nd n1 N1 e1).ds * dv (nd n2 N2 e2).ds) ((nd n1 N1 e1).e + (nd n2 N2 e2).e) = nd (n1 != n2) (N1 * N2) (e1 + e2) := by
  by_cases h1 : N1 = 0
  · subst h1
    rw [nd_zero n1 e1, show dv (⟨false, [], 0⟩ : Dm).ds = 0 from rfl, Nat.zero_mul, Nat.zero_mul, nd_zero, nd_zero]
  · by_cases h2 : N2 = 0
    · subst h2
      rw [nd_zero n2 e2, show dv (⟨false, [], 0⟩ : Dm).ds = 0 from rfl, Nat.mul_zero, Nat.mul_zero, nd_zero, nd_zero]
    · obtain ⟨M1, k1, rfl, p1⟩ := prim N1 h1
      obtain ⟨M2, k2, rfl, p2⟩ := prim N2 h2
      rw [nd_pow, nd_pow, nd_prim _ _ _ p1, nd_prim _ _ _ p2]
      simp only [dv_dgs]
      rw [show M1 * 10 ^ k1 * (M2 * 10 ^ k2) = M1 * M2 * 10 ^ (k1 + k2) by rw [Nat.pow_add]; ac_rfl, nd_pow]
      congr 1
      omega
def pwr (q : QW) : Int := if q.psign = 2 then -(dv (rd q.power) : Int) else (dv (rd q.power) : Int)
def qM (q : QW) : Nat := dv (rd (q.num ++ q.denom))
def qN (q : QW) : Nat := if q.kind = 1 then qM q * 1024 ^ q.place.toNat else qM q
def qE (q : QW) : Int := if q.kind = 2 then -(q.denom.size : Int) + 3 * q.place else if q.kind = 1 then -(q.denom.size : Int) else -(q.denom.size : Int) + pwr q
/-- The number that a word means. -/
def qmeans (q : QW) : Dm := nd (q.sign == 2) (qN q) (qE q)
/-- The cells of a word, of the result and of the number, as they stand. -/
structure MS (w : World) (q : QW) (b3 : Nat) (d : Dm) (p : Option Addr) (n c : Nat) (wr : World) : Prop where
  word : wr.heap[w.heap.size]? = some (.cells q.cells 23 (0, 0))
  out : wr.heap[w.heap.size + 1]? = some (.cells #[.bool false, .slice none 0 0, .int .i64 0] 30 (0, 0))
  num : wr.heap[b3]? = some (.cells #[.bool d.neg, .slice p n c, .int .i64 d.e] 30 (0, 0))
  digs : ∃ b, NsAt wr (.slice p n c) d.ds b
  kept : Kept (fun _ => False) w wr
  far : w.heap.size + 1 < b3
theorem MS.step {w : World} {q : QW} {b3 : Nat} {d : Dm} {p : Option Addr} {n c : Nat} {wr w2 : World} (h : MS w q b3 d p n c wr) (hk : Kept (fun _ => False) wr w2) : MS w q b3 d p n c w2 :=
  ⟨hk.at h.word (fun f => f), hk.at h.out (fun f => f), hk.at h.num (fun f => f), by obtain ⟨b, hb⟩ := h.digs; exact ⟨b, hb.old hk⟩, h.kept.same hk, h.far⟩
theorem MS.drew {w : World} {q : QW} {b3 : Nat} {d : Dm} {p : Option Addr} {n c : Nat} {wr : World} (h : MS w q b3 d p n c wr) : MS w q b3 d p n c wr.drew := h.step (Kept.refl _ _).drew
theorem MS.dm {w : World} {q : QW} {b3 : Nat} {d : Dm} {p : Option Addr} {n c : Nat} {wr : World} (h : MS w q b3 d p n c wr) : DmAt wr (.agg #[.bool d.neg, .slice p n c, .int .i64 d.e]) d := by obtain ⟨b, hb⟩ := h.digs; exact ⟨_, b, rfl, hb⟩
theorem MS.cells {w : World} {b3 : Nat} {d : Dm} {p : Option Addr} {n c : Nat} {wr : World} {sg kd pl ps : Int} {nm dn pw : ByteArray} {dt up : Bool} (h : MS w ⟨sg, nm, dt, dn, kd, pl, up, ps, pw⟩ b3 d p n c wr) :
    (wr.cell? ⟨b3, 0, none⟩ = some (.bool d.neg) ∧ wr.cell? ⟨b3, 1, none⟩ = some (.slice p n c) ∧ wr.cell? ⟨b3, 2, none⟩ = some (.int .i64 d.e)) ∧
    (wr.cell? ⟨w.heap.size, 0, none⟩ = some (.int .i64 sg) ∧ wr.cell? ⟨w.heap.size, 1, none⟩ = some (.string nm) ∧ wr.cell? ⟨w.heap.size, 2, none⟩ = some (.bool dt) ∧ wr.cell? ⟨w.heap.size, 3, none⟩ = some (.string dn) ∧ wr.cell? ⟨w.heap.size, 4, none⟩ = some (.int .i64 kd) ∧ wr.cell? ⟨w.heap.size, 5, none⟩ = some (.int .i64 pl) ∧ wr.cell? ⟨w.heap.size, 6, none⟩ = some (.bool up) ∧ wr.cell? ⟨w.heap.size, 7, none⟩ = some (.int .i64 ps) ∧ wr.cell? ⟨w.heap.size, 8, none⟩ = some (.string pw)) :=
  ⟨cells3 h.num, cell9 h.word⟩
theorem MS.froz {w : World} {q : QW} {b3 : Nat} {d : Dm} {p : Option Addr} {n c : Nat} {wr : World} (h : MS w q b3 d p n c wr) : wr.frozen? ⟨b3, 0, none⟩ = false ∧ wr.frozen? ⟨b3, 1, none⟩ = false ∧ wr.frozen? ⟨b3, 2, none⟩ = false := ⟨frozen_of h.num 0, frozen_of h.num 1, frozen_of h.num 2⟩
theorem MS.store {w : World} {q : QW} {b3 : Nat} {d D : Dm} {p p2 : Option Addr} {n c n2 c2 : Nat} {wr : World} (h : MS w q b3 d p n c wr) (hv : DmAt wr (.agg #[.bool D.neg, .slice p2 n2 c2, .int .i64 D.e]) D) :
    MS w q b3 D p2 n2 c2 (((wr.setCell ⟨b3, 0, none⟩ (.bool D.neg)).setCell ⟨b3, 1, none⟩ (.slice p2 n2 c2)).setCell ⟨b3, 2, none⟩ (.int .i64 D.e)) := by
  have st := store3 h.num (.bool D.neg) (.slice p2 n2 c2) (.int .i64 D.e)
  obtain ⟨s, b, e, hs⟩ := hv
  have e2 : s = .slice p2 n2 c2 := by
    injection e with e
    have := congrArg (fun a => a[1]?) e
    simpa using this.symm
  subst e2
  have hne := hs.ne h.num (by decide)
  have hfar := h.far
  exact ⟨st.2.at h.word (by omega), st.2.at h.out (by omega), st.1, ⟨b, hs.kept st.2 hne⟩, h.kept.trans st.2 (fun _ _ f => f) (fun j hj e => by have := hfar; omega), h.far⟩
theorem MS.fin {w : World} {q : QW} {b3 : Nat} {d : Dm} {p : Option Addr} {n c : Nat} {wr : World} (h : MS w q b3 d p n c wr) :
    DmRes w d (.returned (.agg #[.bool d.neg, .slice p n c, .int .i64 d.e])) (((wr.setCell ⟨w.heap.size + 1, 0, none⟩ (.bool d.neg)).setCell ⟨w.heap.size + 1, 1, none⟩ (.slice p n c)).setCell ⟨w.heap.size + 1, 2, none⟩ (.int .i64 d.e)) ∧ (((wr.setCell ⟨w.heap.size + 1, 0, none⟩ (.bool d.neg)).setCell ⟨w.heap.size + 1, 1, none⟩ (.slice p n c)).setCell ⟨w.heap.size + 1, 2, none⟩ (.int .i64 d.e)).heap[w.heap.size + 1]? = some (.cells #[.bool d.neg, .slice p n c, .int .i64 d.e] 30 (0, 0)) := by
  have st := store3 h.out (.bool d.neg) (.slice p n c) (.int .i64 d.e)
  obtain ⟨b, hs⟩ := h.digs
  have hne := hs.ne h.out (by decide)
  exact ⟨⟨_, rfl, ⟨_, b, rfl, hs.kept st.2 hne⟩, h.kept.trans st.2 (fun _ _ f => f) (fun j hj e => by omega)⟩, st.1⟩
theorem MS.ocells {w : World} {q : QW} {b3 : Nat} {d : Dm} {p : Option Addr} {n c : Nat} {wr : World} (h : MS w q b3 d p n c wr) :
    (wr.cell? ⟨w.heap.size + 1, 0, none⟩ = some (.bool false) ∧ wr.cell? ⟨w.heap.size + 1, 1, none⟩ = some (.slice none 0 0) ∧ wr.cell? ⟨w.heap.size + 1, 2, none⟩ = some (.int .i64 0)) ∧ (wr.frozen? ⟨w.heap.size + 1, 0, none⟩ = false ∧ wr.frozen? ⟨w.heap.size + 1, 1, none⟩ = false ∧ wr.frozen? ⟨w.heap.size + 1, 2, none⟩ = false) :=
  ⟨cells3 h.out, frozen_of h.out 0, frozen_of h.out 1, frozen_of h.out 2⟩
theorem MS.new {w wr : World} {q : QW} {d : Dm} {p : Option Addr} {n c : Nat} (h1 : wr.heap[w.heap.size]? = some (.cells q.cells 23 (0, 0))) (h2 : wr.heap[w.heap.size + 1]? = some (.cells #[.bool false, .slice none 0 0, .int .i64 0] 30 (0, 0))) (hv : DmAt wr (.agg #[.bool d.neg, .slice p n c, .int .i64 d.e]) d) (hk : Kept (fun _ => False) w wr) :
    MS w q wr.heap.size d p n c (wr.alloc (.cells #[.bool d.neg, .slice p n c, .int .i64 d.e] 30)) := by
  have k1 : Kept (fun _ => False) wr (wr.alloc (.cells #[.bool d.neg, .slice p n c, .int .i64 d.e] 30)) := (Kept.refl _ _).alloc _
  have hlt := heap_lt h2
  obtain ⟨s, b, e, hs⟩ := hv
  have e2 : s = .slice p n c := by
    injection e with e
    have := congrArg (fun a => a[1]?) e
    simpa using this.symm
  subst e2
  exact ⟨k1.at h1 (fun f => f), k1.at h2 (fun f => f), heap_alloc_new _ _, ⟨b, hs.old k1⟩, hk.same k1, hlt⟩
/-- One product in a region that draws. -/
def Times1 (w : World) (q : QW) (b3 : Nat) (d D9 D10 : Dm) (p : Option Addr) (n c : Nat) : Prop := ∀ w9 v9, MS w q b3 d p n c w9 → DmAt w9 v9 D9 → Calls Tryz.prog 18 #[.agg #[.bool d.neg, .slice p n c, .int .i64 d.e], v9] w9 (DmRes w9 D10)
theorem times1 {w : World} {q : QW} {b3 : Nat} (ng : Bool) (N F : Nat) (e k : Int) (p : Option Addr) (n c : Nat) (hN : N < 10 ^ 130) (hF : F < 10 ^ 4) (he : -2000 ≤ e ∧ e ≤ 2000) (hk : -2000 ≤ k ∧ k ≤ 2000) :
    Times1 w q b3 (nd ng N e) (nd false F k) (nd ng (N * F) (e + k)) p n c := fun w9 v9 hm hv => by
  have b1 : DmB (nd ng N e) 130 (2000 + (130 : Nat)) := nd_b hN he.1 he.2
  have b2 : DmB (nd false F k) 4 (2000 + (4 : Nat)) := nd_b hF hk.1 hk.2
  have := DecimalTimes_any _ v9 (nd ng N e) (nd false F k) w9 hm.dm hv (by have := b1.len; omega) (by have := b2.len; omega) b1.dig b2.dig (by have := b1.lo; have := b1.hi; omega) (by have := b2.lo; have := b2.hi; omega)
  unfold TimesRes at this
  rw [nd_mul] at this
  simpa using this
def MeansRes (w : World) (q : QW) (e : Ending) (w' : World) : Prop := DmRes w (qmeans q) e w'
def OfR (n : Int) (k : Int) (D : Dm) : Prop := ∀ w, Calls Tryz.prog 14 #[.int .i64 n, .int .i64 k] w (DmRes w D)
theorem of_r (n k : Int) (h1 : 0 ≤ n) (h2 : n ≤ 9223372036854775807) (h3 : -2000 ≤ k ∧ k ≤ 2000) : OfR n k (nd false n.toNat k) := fun w => by
  have := DecimalOf_any n k w (by omega) (by omega)
  rw [show decide (n < 0) = false from decF (by omega), show n.natAbs = n.toNat by omega] at this
  exact this
theorem OfR.at {n k : Int} {D : Dm} (h : OfR n k D) (w : World) : Calls Tryz.prog 14 #[.int .i64 n, .int .i64 k] w (DmRes w D) := h w
theorem Times1.at {w : World} {q : QW} {b3 : Nat} {d D9 D10 : Dm} {p : Option Addr} {n c : Nat} (h : Times1 w q b3 d D9 D10 p n c) (w9 : World) (v9 : Value) (hm : MS w q b3 d p n c w9) (hv : DmAt w9 v9 D9) : Calls Tryz.prog 18 #[.agg #[.bool d.neg, .slice p n c, .int .i64 d.e], v9] w9 (DmRes w9 D10) := h w9 v9 hm hv
theorem allDg_at {s : ByteArray} (h : allDg s = true) : ∀ i (hi : i < s.size), 48 ≤ s[i].toNat ∧ s[i].toNat ≤ 57 := by
  intro i hi
  unfold allDg at h
  rw [List.all_eq_true] at h
  have := h s[i] (by
    have hl : i < s.data.toList.length := by simpa using hi
    have e : s[i] = s.data.toList[i] := rfl
    rw [e]
    exact List.getElem_mem hl)
  simpa [isDg] using this
theorem rd_bound (s : ByteArray) (L : Nat) (h : s.size ≤ L) : dv (rd s) < 10 ^ L := by
  have := dv_lt (rd s) (rd_le s)
  rw [rd_len] at this
  exact Nat.lt_of_lt_of_le this (Nat.pow_le_pow_right (by omega) h)
def PwI (l : List Nat) (i : Nat) : Int := (dv (l.take i) : Int)
set_option maxRecDepth 100000 in
set_option maxHeartbeats 8000000 in
theorem QuantityMeans_any (q : QW) (hq : QRight q) (h1 : q.num.size + q.denom.size ≤ 100) (w : World) : Calls Tryz.prog 30 #[.agg q.cells] w (MeansRes w q) := by
  obtain ⟨-, -, -, -, hs0, hs2, hkinds⟩ := hq
  show Calls Tryz.prog 30 #[.agg q.cells] w (DmRes w (qmeans q))
  have hsz : (q.num ++ q.denom).size = q.num.size + q.denom.size := by simp
  have hM := rd_bound (q.num ++ q.denom) 100 (by omega)
  have rdc : ∀ w, Calls Tryz.prog 74 #[.bool (q.sign == 2), .string (q.num ++ q.denom), .int .i64 (-(q.denom.size : Int))] w (DmRes w (nd (q.sign == 2) (qM q) (-(q.denom.size : Int)))) := fun w => by
    have := DecimalRead_any (q.sign == 2) (q.num ++ q.denom) (-(q.denom.size : Int)) w (by omega) (by omega)
    rwa [nd_of _ _ _ (rd_le _)] at this
  have hb0 : DmB (nd (q.sign == 2) (qM q) (-(q.denom.size : Int))) 100 (100 + (100 : Nat)) := nd_b hM (by omega) (by omega)
  have RDC := Lib.hid rdc
  have HB0 := Lib.hid hb0
  have HMM : Hid (qM q < 10 ^ 100) := hM
  have HQM : Hid (qmeans q = nd (q.sign == 2) (qN q) (qE q)) := rfl
  have HQN : Hid (qN q = if q.kind = 1 then qM q * 1024 ^ q.place.toNat else qM q) := rfl
  have HQE : Hid (qE q = if q.kind = 2 then -(q.denom.size : Int) + 3 * q.place else if q.kind = 1 then -(q.denom.size : Int) else -(q.denom.size : Int) + pwr q) := rfl
  have HPW : Hid (pwr q = if q.psign = 2 then -(dv (rd q.power) : Int) else (dv (rd q.power) : Int)) := rfl
  generalize hD : qmeans q = D at HQM ⊢
  generalize qN q = QN at *
  generalize qE q = QE at *
  generalize pwr q = PW at *
  generalize qM q = M at *
  obtain ⟨sg, nm, dt, dn, kd, pl, up, ps, pw⟩ := q
  simp only [QW.cells] at *
  have f1 : ¬ (9223372036854775807 < nm.size + dn.size) := by omega
  have k0 : Kept (fun _ => False) w ((w.alloc (.cells #[.int .i64 sg, .string nm, .bool dt, .string dn, .int .i64 kd, .int .i64 pl, .bool up, .int .i64 ps, .string pw] 23)).alloc (.cells #[.bool false, .slice none 0 0, .int .i64 0] 30)) := ((Kept.refl _ _).alloc _).alloc _
  have b1 := heap_alloc_new w (.cells #[.int .i64 sg, .string nm, .bool dt, .string dn, .int .i64 kd, .int .i64 pl, .bool up, .int .i64 ps, .string pw] 23)
  have b1 := ((Kept.refl (fun _ => False) _).alloc (.cells #[.bool false, .slice none 0 0, .int .i64 0] 30)).at b1 (fun f => f)
  have b2 := heap_alloc_new (w.alloc (.cells #[.int .i64 sg, .string nm, .bool dt, .string dn, .int .i64 kd, .int .i64 pl, .bool up, .int .i64 ps, .string pw] 23)) (.cells #[.bool false, .slice none 0 0, .int .i64 0] 30)
  have e2 : (w.alloc (.cells #[.int .i64 sg, .string nm, .bool dt, .string dn, .int .i64 kd, .int .i64 pl, .bool up, .int .i64 ps, .string pw] 23)).heap.size = w.heap.size + 1 := by simp
  rw [e2] at b2
  generalize hW : (w.alloc (.cells #[.int .i64 sg, .string nm, .bool dt, .string dn, .int .i64 kd, .int .i64 pl, .bool up, .int .i64 ps, .string pw] 23)).alloc (.cells #[.bool false, .slice none 0 0, .int .i64 0] 30) = W at *
  have B1 := Lib.hid b1
  have B2 := Lib.hid b2
  have K0 := Lib.hid k0
  have HKD := Lib.hid hkinds
  have HDN : Hid (dn.size ≤ 100) := by show dn.size ≤ 100; omega
  generalize hng : (sg == 2) = ng at *
  obtain ⟨c0, c1, c2, c3, c4, c5, c6, c7, c8⟩ := cell9 b1
  clear hM rdc hb0 b1 b2 k0 e2 hkinds h1 hsz hD
  go_enter Tryz.func30, Tryz.ntmps30
  go_wp2_with fail
  refine (RDC.out _).mono ?_
  rintro e w2 ⟨v2, rfl, hv2, hk2⟩
  have HV2 := Lib.hid hv2
  obtain ⟨p, n, c, b, rfl, hs⟩ := hv2.shape
  have hnew := MS.new (q := ⟨sg, nm, dt, dn, kd, pl, up, ps, pw⟩) (hk2.at B1.out (fun f => f)) (hk2.at B2.out (fun f => f)) HV2.out (K0.out.same hk2)
  generalize hd : nd ng M (-(dn.size : Int)) = d at *
  have HD := Lib.hid hd
  generalize hb3 : w2.heap.size = b3 at *
  generalize hX : w2.alloc (.cells #[.bool d.neg, .slice p n c, .int .i64 d.e] 30) = X at *
  obtain ⟨⟨x0, x1, x2⟩, ⟨q0, q1, q2, q3, q4, q5, q6, q7, q8⟩⟩ := hnew.cells
  have HX := Lib.hid hnew
  clear hnew hv2 hk2 hs hd hng
  have hHX := hX
  clear hHX
  rcases HKD.out with ⟨rfl, p1, p2⟩ | ⟨rfl, p1, p2⟩ | ⟨rfl, p1, p2, p3, p4, p5⟩
  · have hof := of_r 1 (3 * pl) (by omega) (by omega) (by omega)
    have htt := times1 (w := w) (q := ⟨sg, nm, dt, dn, 2, pl, up, ps, pw⟩) (b3 := b3) ng M 1 (-(dn.size : Int)) (3 * pl) p n c (Nat.lt_of_lt_of_le HMM.out (by decide)) (by decide) (by have := HDN.out; omega) (by omega)
    have hdd := HQM.out
    rw [HQN.out, HQE.out, if_neg (by decide), if_pos rfl] at hdd
    rw [HD.out, Nat.mul_one, ← hdd] at htt
    rw [show (1 : Int).toNat = 1 from rfl] at hof
    obtain ⟨D10, hD10⟩ : ∃ D10, D10 = D := ⟨_, rfl⟩
    rw [← hD10] at htt
    have HDD := Lib.hid hD10
    generalize hD9 : nd false 1 (3 * pl) = D9 at hof htt
    rw [show 3 * pl = wrap64 (3 * pl) by unfold wrap64; omega] at hof
    have HOF := Lib.hid hof
    have HTT := Lib.hid htt
    have M0 := Lib.hid HX.out.drew
    obtain ⟨⟨x0, x1, x2⟩, ⟨q0, q1, q2, q3, q4, q5, q6, q7, q8⟩⟩ := M0.out.cells
    clear hof htt hdd hD10 hD9
    go_wp2_with fail
    refine start_ (n := 7) (S := fun w' => w'.cell? ⟨b3, 0, none⟩ = some (.bool d.neg) ∧ w'.cell? ⟨b3, 1, none⟩ = some (.slice p n c) ∧ w'.cell? ⟨b3, 2, none⟩ = some (.int .i64 d.e) ∧ w'.cell? ⟨w.heap.size, 5, none⟩ = some (.int .i64 pl)) (ds := [6]) #[false, false, false, false, false, false, false] (by kernel_rfl) rfl rfl ⟨x0, x1, x2, q5⟩ (fun hHeld => ?_)
    refine pure_ (i := 1) (N := some 49) (v := ?_) (a' := ?_) #[false, true, false, false, false, false, false] rfl rfl (by kernel_rfl) (fun _ _ _ h => h) (Or.inl ⟨by rfl, ?_⟩) ?_ ?_
    rotate_left
    · intro w'
      go_simp
      with_reducible rfl
    rotate_left
    · simp only [Act.put, List.setIfInBounds_toArray, List.set_cons_zero, List.set_cons_succ, i64_w, i32_w]
      rfl
    refine take_ (i := 0) (N := some 48) (v := ?_) (a' := ?_) #[true, true, false, false, false, false, false] rfl rfl (by kernel_rfl) (fun _ _ _ h => h) (Or.inl ⟨by rfl, ?_⟩) hHeld ?_ ?_
    rotate_left
    · rintro w' ⟨s0, s1, s2, s3⟩
      go_simp
      with_reducible rfl
    rotate_left
    · simp only [Act.put, List.setIfInBounds_toArray, List.set_cons_zero, List.set_cons_succ, i64_w, i32_w]
      rfl
    refine take_ (i := 2) (N := some 50) (v := ?_) (a' := ?_) #[true, true, true, false, false, false, false] rfl rfl (by kernel_rfl) (fun _ _ _ h => h) (Or.inl ⟨by rfl, ?_⟩) hHeld ?_ ?_
    rotate_left
    · rintro w' ⟨s0, s1, s2, s3⟩
      go_simp
      with_reducible rfl
    rotate_left
    · simp only [Act.put, List.setIfInBounds_toArray, List.set_cons_zero, List.set_cons_succ, i64_w, i32_w]
      rfl
    refine pure_ (i := 3) (N := some 51) (v := ?_) (a' := ?_) #[true, true, true, true, false, false, false] rfl rfl (by kernel_rfl) (fun _ _ _ h => h) (Or.inl ⟨by rfl, ?_⟩) ?_ ?_
    rotate_left
    · intro w'
      go_simp
      with_reducible rfl
    rotate_left
    · simp only [Act.put, List.setIfInBounds_toArray, List.set_cons_zero, List.set_cons_succ, i64_w, i32_w]
      rfl
    refine one_ (i := 4) (N := some 52) #[true, true, true, true, true, false, false] rfl rfl (by kernel_rfl) (by decide) (fun K hK => ?_)
    refine goes_ Tryz.func14 (by kernel_rfl) rfl #[.int .i64 1, .int .i64 (wrap64 (3 * pl))] (by rfl) rfl rfl (by simp only [List.map_toArray, List.map_cons, List.map_nil]; rfl) ?_
    with_reducible refine (HOF.out.at _).mono ?_
    rintro e w9 ⟨v9, rfl, hv9, hk⟩
    have G1 := Lib.hid (M0.out.step hk)
    obtain ⟨⟨x0, x1, x2⟩, ⟨q0, q1, q2, q3, q4, q5, q6, q7, q8⟩⟩ := G1.out.cells
    have V9 := Lib.hid hv9
    obtain ⟨p9, n9, c9, b9, rfl, hs9⟩ := hv9.shape
    clear hk hv9 hs9
    refine ⟨_, rfl, ?_⟩
    refine hK.out _ _ ⟨x0, x1, x2, q5⟩ (fun hHeld => ?_)
    clear hK K
    refine norm_ (a' := ?_) ?_ ?_
    rotate_left
    · show Act.put _ (some 52) _ = _
      simp only [Act.put, List.setIfInBounds_toArray, List.set_cons_zero, List.set_cons_succ, i64_w, i32_w]
      rfl
    refine one_ (i := 5) (N := some 53) #[true, true, true, true, true, true, false] rfl rfl (by kernel_rfl) (by decide) (fun K hK => ?_)
    refine goes_ Tryz.func18 (by kernel_rfl) rfl #[.agg #[.bool d.neg, .slice p n c, .int .i64 d.e], .agg #[.bool D9.neg, .slice p9 n9 c9, .int .i64 D9.e]] (by rfl) rfl rfl (by simp only [List.map_toArray, List.map_cons, List.map_nil]; rfl) ?_
    with_reducible refine (HTT.out.at _ _ G1.out V9.out).mono ?_
    rintro e w10 ⟨v10, rfl, hv10, hk⟩
    have G2 := Lib.hid (G1.out.step hk)
    obtain ⟨⟨x0, x1, x2⟩, ⟨q0, q1, q2, q3, q4, q5, q6, q7, q8⟩⟩ := G2.out.cells
    have V10 := Lib.hid hv10
    obtain ⟨p10, n10, c10, b10, rfl, hs10⟩ := hv10.shape
    clear hk hv10 hs10
    have hst := G2.out.store V10.out
    obtain ⟨f0, f1, f2⟩ := G2.out.froz
    generalize hW3 : (((w10.setCell ⟨b3, 0, none⟩ (.bool D10.neg)).setCell ⟨b3, 1, none⟩ (.slice p10 n10 c10)).setCell ⟨b3, 2, none⟩ (.int .i64 D10.e)) = W3 at hst
    have HST := Lib.hid hst
    clear hst
    refine ⟨_, rfl, ?_⟩
    refine hK.out _ _ ⟨x0, x1, x2, q5⟩ (fun hHeld => ?_)
    clear hK K
    refine norm_ (a' := ?_) ?_ ?_
    rotate_left
    · show Act.put _ (some 53) _ = _
      simp only [Act.put, List.setIfInBounds_toArray, List.set_cons_zero, List.set_cons_succ, i64_w, i32_w]
      rfl
    refine last_ (i := 6) (N := none) #[true, true, true, true, true, true, true] rfl rfl (by kernel_rfl) (by decide) (fun K hK => ?_)
    refine skip_ (w1 := ?_) (by rfl) rfl ?_ ?_
    rotate_left
    · go_simp
      rfl
    refine hK.out _ _ ?_
    clear hK K
    refine done_ (by kernel_rfl) ?_
    obtain ⟨⟨x0, x1, x2⟩, ⟨q0, q1, q2, q3, q4, q5, q6, q7, q8⟩⟩ := HST.out.cells
    obtain ⟨⟨o0, o1, o2⟩, g0, g1, g2⟩ := HST.out.ocells
    have hf := HST.out.fin
    generalize hW4 : (((W3.setCell ⟨w.heap.size + 1, 0, none⟩ (.bool D10.neg)).setCell ⟨w.heap.size + 1, 1, none⟩ (.slice p10 n10 c10)).setCell ⟨w.heap.size + 1, 2, none⟩ (.int .i64 D10.e)) = W4 at hf
    obtain ⟨hf1, hf2⟩ := hf
    have HF1 := Lib.hid hf1
    have HF2 := Lib.hid hf2
    clear hf1 hf2 hX
    go_wp2_with fail
    obtain ⟨u0, u1, u2⟩ := cells3 HF2.out
    refine bodyPost_ret (v := .agg #[.bool D10.neg, .slice p10 n10 c10, .int .i64 D10.e]) ?_ rfl (by rw [← HDD.out]; exact HF1.out)
    simp [results, Tryz.f30, loadVar, go_sem, u0, u1, u2]
  · obtain ⟨K, rfl⟩ : ∃ K : Nat, pl = (K : Int) := ⟨pl.toNat, by omega⟩
    have HDD0 : Hid (D = nd ng (M * 1024 ^ K) (-(dn.size : Int))) := by
      have hdd := HQM.out
      rw [HQN.out, HQE.out, if_pos rfl, if_neg (by decide), if_pos rfl] at hdd
      rw [hdd]
      rfl
    have hX0 : MS w ⟨sg, nm, dt, dn, 1, (K : Int), up, ps, pw⟩ b3 (nd ng (M * 1024 ^ 0) (-(dn.size : Int))) p n c X := by
      rw [Nat.pow_zero, Nat.mul_one, HD.out]
      exact HX.out
    have HX0 := Lib.hid hX0
    clear hX0
    go_wp2_with fail
    go_loopw [58] (fun v wr => ∃ (i : Nat) (p : Option Addr) (n c : Nat), v = .int .i64 (i : Int) ∧ i ≤ K ∧ Hid (MS w ⟨sg, nm, dt, dn, 1, (K : Int), up, ps, pw⟩ b3 (nd ng (M * 1024 ^ i) (-(dn.size : Int))) p n c wr)) (fun v _ => K - uOf v)
    case atStart => exact ⟨0, p, n, c, rfl, by omega, HX0⟩
    case round =>
      clear x0 x1 x2 q0 q1 q2 q3 q4 q5 q6 q7 q8 HX0 HX HD hX
      obtain ⟨i, p, n, c, rfl, hi, HM⟩ := hrel
      rcases Nat.lt_or_ge i K with hlt | hge
      · have hb6 : M * 1024 ^ i < 10 ^ 130 := by
          have h1 : (1024 : Nat) ^ i ≤ 1024 ^ 6 := Nat.pow_le_pow_right (by omega) (by omega)
          have h2 : (1024 : Nat) ^ 6 < 10 ^ 30 := by decide
          have h3 : M * 1024 ^ i < 10 ^ 100 * 10 ^ 30 := Nat.mul_lt_mul'' HMM.out (Nat.lt_of_le_of_lt h1 h2)
          rwa [← Nat.pow_add] at h3
        have hof := of_r 1024 0 (by omega) (by omega) (by omega)
        have htt := times1 (w := w) (q := ⟨sg, nm, dt, dn, 1, (K : Int), up, ps, pw⟩) (b3 := b3) ng (M * 1024 ^ i) 1024 (-(dn.size : Int)) 0 p n c hb6 (by decide) (by have := HDN.out; omega) (by omega)
        rw [Nat.mul_assoc, ← Nat.pow_succ, Int.add_zero] at htt
        rw [show (1024 : Int).toNat = 1024 from rfl] at hof
        obtain ⟨D10, hD10⟩ : ∃ D10, D10 = nd ng (M * 1024 ^ (i + 1)) (-(dn.size : Int)) := ⟨_, rfl⟩
        rw [show i.succ = i + 1 from rfl, ← hD10] at htt
        have HDD := Lib.hid hD10
        generalize hD9 : nd false 1024 0 = D9 at hof htt
        have HOF := Lib.hid hof
        have M0 := Lib.hid HM.out.drew
        generalize hd : nd ng (M * 1024 ^ i) (-(dn.size : Int)) = d at *
        have HTT := Lib.hid htt
        obtain ⟨⟨x0, x1, x2⟩, ⟨q0, q1, q2, q3, q4, q5, q6, q7, q8⟩⟩ := M0.out.cells
        clear hof htt hD10 hD9 hd hb6
        go_wp2_with fail
        refine start_ (n := 4) (S := fun w' => w'.cell? ⟨b3, 0, none⟩ = some (.bool d.neg) ∧ w'.cell? ⟨b3, 1, none⟩ = some (.slice p n c) ∧ w'.cell? ⟨b3, 2, none⟩ = some (.int .i64 d.e)) (ds := [3]) #[false, false, false, false] (by kernel_rfl) rfl rfl ⟨x0, x1, x2⟩ (fun hHeld => ?_)
        refine take_ (i := 0) (N := some 60) (v := ?_) (a' := ?_) #[true, false, false, false] rfl rfl (by kernel_rfl) (fun _ _ _ h => h) (Or.inl ⟨by rfl, ?_⟩) hHeld ?_ ?_
        rotate_left
        · rintro w' ⟨s0, s1, s2⟩
          go_simp
          with_reducible rfl
        rotate_left
        · simp only [Act.put, List.setIfInBounds_toArray, List.set_cons_zero, List.set_cons_succ, i64_w, i32_w]
          rfl
        refine one_ (i := 1) (N := some 61) #[true, true, false, false] rfl rfl (by kernel_rfl) (by decide) (fun K hK => ?_)
        refine goes_ Tryz.func14 (by kernel_rfl) rfl #[.int .i64 1024, .int .i64 0] (by rfl) rfl rfl (by simp only [List.map_toArray, List.map_cons, List.map_nil]; rfl) ?_
        with_reducible refine (HOF.out.at _).mono ?_
        rintro e w9 ⟨v9, rfl, hv9, hk⟩
        have G1 := Lib.hid (M0.out.step hk)
        obtain ⟨⟨x0, x1, x2⟩, ⟨q0, q1, q2, q3, q4, q5, q6, q7, q8⟩⟩ := G1.out.cells
        have V9 := Lib.hid hv9
        obtain ⟨p9, n9, c9, b9, rfl, hs9⟩ := hv9.shape
        clear hk hv9 hs9
        refine ⟨_, rfl, ?_⟩
        refine hK.out _ _ ⟨x0, x1, x2⟩ (fun hHeld => ?_)
        clear hK K
        refine norm_ (a' := ?_) ?_ ?_
        rotate_left
        · show Act.put _ (some 61) _ = _
          simp only [Act.put, List.setIfInBounds_toArray, List.set_cons_zero, List.set_cons_succ, i64_w, i32_w]
          rfl
        refine one_ (i := 2) (N := some 62) #[true, true, true, false] rfl rfl (by kernel_rfl) (by decide) (fun K hK => ?_)
        refine goes_ Tryz.func18 (by kernel_rfl) rfl #[.agg #[.bool d.neg, .slice p n c, .int .i64 d.e], .agg #[.bool D9.neg, .slice p9 n9 c9, .int .i64 D9.e]] (by rfl) rfl rfl (by simp only [List.map_toArray, List.map_cons, List.map_nil]; rfl) ?_
        with_reducible refine (HTT.out.at _ _ G1.out V9.out).mono ?_
        rintro e w10 ⟨v10, rfl, hv10, hk⟩
        have G2 := Lib.hid (G1.out.step hk)
        obtain ⟨⟨x0, x1, x2⟩, ⟨q0, q1, q2, q3, q4, q5, q6, q7, q8⟩⟩ := G2.out.cells
        have V10 := Lib.hid hv10
        obtain ⟨p10, n10, c10, b10, rfl, hs10⟩ := hv10.shape
        clear hk hv10 hs10
        have hst := G2.out.store V10.out
        obtain ⟨f0, f1, f2⟩ := G2.out.froz
        generalize hW3 : (((w10.setCell ⟨b3, 0, none⟩ (.bool D10.neg)).setCell ⟨b3, 1, none⟩ (.slice p10 n10 c10)).setCell ⟨b3, 2, none⟩ (.int .i64 D10.e)) = W3 at hst
        have HST := Lib.hid hst
        clear hst
        refine ⟨_, rfl, ?_⟩
        refine hK.out _ _ ⟨x0, x1, x2⟩ (fun hHeld => ?_)
        clear hK K
        refine norm_ (a' := ?_) ?_ ?_
        rotate_left
        · show Act.put _ (some 62) _ = _
          simp only [Act.put, List.setIfInBounds_toArray, List.set_cons_zero, List.set_cons_succ, i64_w, i32_w]
          rfl
        refine last_ (i := 3) (N := none) #[true, true, true, true] rfl rfl (by kernel_rfl) (by decide) (fun K hK => ?_)
        refine skip_ (w1 := ?_) (by rfl) rfl ?_ ?_
        rotate_left
        · go_simp
          rfl
        refine hK.out _ _ ?_
        clear hK K
        refine done_ (by kernel_rfl) ?_
        rw [HDD.out] at HST
        go_wp2_with fail
        go_roundw
        case rel => exact ⟨i + 1, p10, n10, c10, rfl, by omega, HST⟩
        case measure => simp [uOf]; omega
      · obtain rfl : K = i := by omega
        obtain ⟨D10, hD10⟩ : ∃ D10, D10 = nd ng (M * 1024 ^ K) (-(dn.size : Int)) := ⟨_, rfl⟩
        rw [← hD10] at HM HDD0
        have HDD : Hid (D10 = D) := HDD0.out.symm
        have HST := HM
        obtain ⟨W3, hW3⟩ : ∃ W3, W3 = wr := ⟨_, rfl⟩
        subst hW3
        obtain ⟨p10, hp10⟩ : ∃ p10, p10 = p := ⟨_, rfl⟩
        obtain ⟨n10, hn10⟩ : ∃ n10, n10 = n := ⟨_, rfl⟩
        obtain ⟨c10, hc10⟩ : ∃ c10, c10 = c := ⟨_, rfl⟩
        subst hp10 hn10 hc10
        clear hD10 hge hi HM
        obtain ⟨⟨x0, x1, x2⟩, ⟨q0, q1, q2, q3, q4, q5, q6, q7, q8⟩⟩ := HST.out.cells
        obtain ⟨⟨o0, o1, o2⟩, g0, g1, g2⟩ := HST.out.ocells
        have hf := HST.out.fin
        generalize hW4 : (((W3.setCell ⟨w.heap.size + 1, 0, none⟩ (.bool D10.neg)).setCell ⟨w.heap.size + 1, 1, none⟩ (.slice p10 n10 c10)).setCell ⟨w.heap.size + 1, 2, none⟩ (.int .i64 D10.e)) = W4 at hf
        obtain ⟨hf1, hf2⟩ := hf
        have HF1 := Lib.hid hf1
        have HF2 := Lib.hid hf2
        clear hf1 hf2
        go_wp2_with fail
        obtain ⟨u0, u1, u2⟩ := cells3 HF2.out
        refine bodyPost_ret (v := .agg #[.bool D10.neg, .slice p10 n10 c10, .int .i64 D10.e]) ?_ rfl (by rw [← HDD.out]; exact HF1.out)
        simp [results, Tryz.f30, loadVar, go_sem, u0, u1, u2]
  · have hpd := allDg_at p1
    have HPD := Lib.hid hpd
    clear hpd
    go_wp2_with fail
    go_loop [4, 5] (fun v4 v5 => ∃ i : Nat, v5 = .int .i64 (i : Int) ∧ i ≤ pw.size ∧ v4 = .int .i64 (dv ((rd pw).take i) : Int)) (fun _ v5 => pw.size - uOf v5)
    case atStart => exact ⟨0, rfl, by omega, by simp [dv]⟩
    case round =>
      obtain ⟨i, rfl, hi, rfl⟩ := hrel
      have hN : dv ((rd pw).take i) < 1000 := by
        have := dv_lt ((rd pw).take i) (fun x hx => rd_le pw x (List.mem_of_mem_take hx))
        have h2 : ((rd pw).take i).length ≤ 3 := by rw [List.length_take, rd_len]; omega
        exact Nat.lt_of_lt_of_le this (Nat.le_trans (Nat.pow_le_pow_right (by omega) h2) (by decide))
      rcases Nat.lt_or_ge i pw.size with hlt | hge
      · obtain ⟨g1, g2⟩ := HPD.out i hlt
        have ht : dv ((rd pw).take (i + 1)) = 10 * dv ((rd pw).take i) + (pw[i].toNat - 48) := by
          rw [dv_take _ _ (by rw [rd_len]; exact hlt)]
          congr 1
          have : (rd pw)[i]? = some (dgOf pw[i].toNat) := by simp [rd, hlt]; rfl
          rw [List.getD_eq_getElem?_getD, this]
          show dgOf pw[i].toNat = _
          unfold dgOf isDg
          rw [if_pos (by simp; omega)]
        have HT := Lib.hid ht
        clear ht
        generalize dv ((rd pw).take i) = N at *
        generalize hN2 : dv ((rd pw).take (i + 1)) = N2 at *
        have hu8 : IntKind.u8.wrap ((pw[i].toNat : Int) - 48) = (pw[i].toNat : Int) - 48 := by rw [IntKind.wrap_u8]; omega
        go_wp2_with fail
        go_round
        case rel => exact ⟨i + 1, rfl, by omega, by rw [hN2, HT.out]; congr 1; omega⟩
        case measure => simp [uOf]; omega
      · obtain rfl : i = pw.size := by omega
        rw [List.take_of_length_le (by rw [rd_len]; omega)] at hN ⊢
        generalize hNN : dv (rd pw) = N at *
        by_cases hps : ps = 2
        · subst hps
          have hof := of_r 1 (-(N : Int)) (by omega) (by omega) (by omega)
          have htt := times1 (w := w) (q := ⟨sg, nm, dt, dn, 0, pl, up, 2, pw⟩) (b3 := b3) ng M 1 (-(dn.size : Int)) (-(N : Int)) p n c (Nat.lt_of_lt_of_le HMM.out (by decide)) (by decide) (by have := HDN.out; omega) (by omega)
          have hdd := HQM.out
          rw [HQN.out, HQE.out, if_neg (by decide), if_neg (by decide), if_neg (by decide), HPW.out, if_pos rfl] at hdd
          rw [HD.out, Nat.mul_one, ← hdd] at htt
          rw [show (1 : Int).toNat = 1 from rfl] at hof
          obtain ⟨D10, hD10⟩ : ∃ D10, D10 = D := ⟨_, rfl⟩
          rw [← hD10] at htt
          have HDD := Lib.hid hD10
          generalize hD9 : nd false 1 (-(N : Int)) = D9 at hof htt
          have HOF := Lib.hid hof
          have HTT := Lib.hid htt
          have M0 := Lib.hid HX.out.drew
          obtain ⟨⟨x0, x1, x2⟩, ⟨q0, q1, q2, q3, q4, q5, q6, q7, q8⟩⟩ := M0.out.cells
          clear hof htt hdd hD10 hD9 hi hge hNN
          go_wp2_with fail
          refine start_ (n := 5) (S := fun w' => w'.cell? ⟨b3, 0, none⟩ = some (.bool d.neg) ∧ w'.cell? ⟨b3, 1, none⟩ = some (.slice p n c) ∧ w'.cell? ⟨b3, 2, none⟩ = some (.int .i64 d.e)) (ds := [4]) #[false, false, false, false, false] (by kernel_rfl) rfl rfl ⟨x0, x1, x2⟩ (fun hHeld => ?_)
          refine pure_ (i := 1) (N := some 43) (v := ?_) (a' := ?_) #[false, true, false, false, false] rfl rfl (by kernel_rfl) (fun _ _ _ h => h) (Or.inl ⟨by rfl, ?_⟩) ?_ ?_
          rotate_left
          · intro w'
            go_simp
            with_reducible rfl
          rotate_left
          · simp only [Act.put, List.setIfInBounds_toArray, List.set_cons_zero, List.set_cons_succ, i64_w, i32_w]
            rfl
          refine take_ (i := 0) (N := some 42) (v := ?_) (a' := ?_) #[true, true, false, false, false] rfl rfl (by kernel_rfl) (fun _ _ _ h => h) (Or.inl ⟨by rfl, ?_⟩) hHeld ?_ ?_
          rotate_left
          · rintro w' ⟨s0, s1, s2⟩
            go_simp
            with_reducible rfl
          rotate_left
          · simp only [Act.put, List.setIfInBounds_toArray, List.set_cons_zero, List.set_cons_succ, i64_w, i32_w]
            rfl
          refine one_ (i := 2) (N := some 44) #[true, true, true, false, false] rfl rfl (by kernel_rfl) (by decide) (fun K hK => ?_)
          refine goes_ Tryz.func14 (by kernel_rfl) rfl #[.int .i64 1, .int .i64 (-(N : Int))] (by rfl) rfl rfl (by simp only [List.map_toArray, List.map_cons, List.map_nil]; rfl) ?_
          with_reducible refine (HOF.out.at _).mono ?_
          rintro e w9 ⟨v9, rfl, hv9, hk⟩
          have G1 := Lib.hid (M0.out.step hk)
          obtain ⟨⟨x0, x1, x2⟩, ⟨q0, q1, q2, q3, q4, q5, q6, q7, q8⟩⟩ := G1.out.cells
          have V9 := Lib.hid hv9
          obtain ⟨p9, n9, c9, b9, rfl, hs9⟩ := hv9.shape
          clear hk hv9 hs9
          refine ⟨_, rfl, ?_⟩
          refine hK.out _ _ ⟨x0, x1, x2⟩ (fun hHeld => ?_)
          clear hK K
          refine norm_ (a' := ?_) ?_ ?_
          rotate_left
          · show Act.put _ (some 44) _ = _
            simp only [Act.put, List.setIfInBounds_toArray, List.set_cons_zero, List.set_cons_succ, i64_w, i32_w]
            rfl
          refine one_ (i := 3) (N := some 45) #[true, true, true, true, false] rfl rfl (by kernel_rfl) (by decide) (fun K hK => ?_)
          refine goes_ Tryz.func18 (by kernel_rfl) rfl #[.agg #[.bool d.neg, .slice p n c, .int .i64 d.e], .agg #[.bool D9.neg, .slice p9 n9 c9, .int .i64 D9.e]] (by rfl) rfl rfl (by simp only [List.map_toArray, List.map_cons, List.map_nil]; rfl) ?_
          with_reducible refine (HTT.out.at _ _ G1.out V9.out).mono ?_
          rintro e w10 ⟨v10, rfl, hv10, hk⟩
          have G2 := Lib.hid (G1.out.step hk)
          obtain ⟨⟨x0, x1, x2⟩, ⟨q0, q1, q2, q3, q4, q5, q6, q7, q8⟩⟩ := G2.out.cells
          have V10 := Lib.hid hv10
          obtain ⟨p10, n10, c10, b10, rfl, hs10⟩ := hv10.shape
          clear hk hv10 hs10
          have hst := G2.out.store V10.out
          obtain ⟨f0, f1, f2⟩ := G2.out.froz
          generalize hW3 : (((w10.setCell ⟨b3, 0, none⟩ (.bool D10.neg)).setCell ⟨b3, 1, none⟩ (.slice p10 n10 c10)).setCell ⟨b3, 2, none⟩ (.int .i64 D10.e)) = W3 at hst
          have HST := Lib.hid hst
          clear hst
          refine ⟨_, rfl, ?_⟩
          refine hK.out _ _ ⟨x0, x1, x2⟩ (fun hHeld => ?_)
          clear hK K
          refine norm_ (a' := ?_) ?_ ?_
          rotate_left
          · show Act.put _ (some 45) _ = _
            simp only [Act.put, List.setIfInBounds_toArray, List.set_cons_zero, List.set_cons_succ, i64_w, i32_w]
            rfl
          refine last_ (i := 4) (N := none) #[true, true, true, true, true] rfl rfl (by kernel_rfl) (by decide) (fun K hK => ?_)
          refine skip_ (w1 := ?_) (by rfl) rfl ?_ ?_
          rotate_left
          · go_simp
            rfl
          refine hK.out _ _ ?_
          clear hK K
          refine done_ (by kernel_rfl) ?_
          obtain ⟨⟨x0, x1, x2⟩, ⟨q0, q1, q2, q3, q4, q5, q6, q7, q8⟩⟩ := HST.out.cells
          obtain ⟨⟨o0, o1, o2⟩, g0, g1, g2⟩ := HST.out.ocells
          have hf := HST.out.fin
          generalize hW4 : (((W3.setCell ⟨w.heap.size + 1, 0, none⟩ (.bool D10.neg)).setCell ⟨w.heap.size + 1, 1, none⟩ (.slice p10 n10 c10)).setCell ⟨w.heap.size + 1, 2, none⟩ (.int .i64 D10.e)) = W4 at hf
          obtain ⟨hf1, hf2⟩ := hf
          have HF1 := Lib.hid hf1
          have HF2 := Lib.hid hf2
          clear hf1 hf2 hX
          go_wp2_with fail
          obtain ⟨u0, u1, u2⟩ := cells3 HF2.out
          refine bodyPost_ret (v := .agg #[.bool D10.neg, .slice p10 n10 c10, .int .i64 D10.e]) ?_ rfl (by rw [← HDD.out]; exact HF1.out)
          simp [results, Tryz.f30, loadVar, go_sem, u0, u1, u2]
        · have hps2 : (ps == 2) = false := beqF hps
          have hof := of_r 1 ((N : Int)) (by omega) (by omega) (by omega)
          have htt := times1 (w := w) (q := ⟨sg, nm, dt, dn, 0, pl, up, ps, pw⟩) (b3 := b3) ng M 1 (-(dn.size : Int)) ((N : Int)) p n c (Nat.lt_of_lt_of_le HMM.out (by decide)) (by decide) (by have := HDN.out; omega) (by omega)
          have hdd := HQM.out
          rw [HQN.out, HQE.out, if_neg (by decide), if_neg (by decide), if_neg (by decide), HPW.out, if_neg hps] at hdd
          rw [HD.out, Nat.mul_one, ← hdd] at htt
          rw [show (1 : Int).toNat = 1 from rfl] at hof
          obtain ⟨D10, hD10⟩ : ∃ D10, D10 = D := ⟨_, rfl⟩
          rw [← hD10] at htt
          have HDD := Lib.hid hD10
          generalize hD9 : nd false 1 ((N : Int)) = D9 at hof htt
          have HOF := Lib.hid hof
          have HTT := Lib.hid htt
          have M0 := Lib.hid HX.out.drew
          obtain ⟨⟨x0, x1, x2⟩, ⟨q0, q1, q2, q3, q4, q5, q6, q7, q8⟩⟩ := M0.out.cells
          clear hof htt hdd hD10 hD9 hi hge hNN
          go_wp2_with fail
          refine start_ (n := 5) (S := fun w' => w'.cell? ⟨b3, 0, none⟩ = some (.bool d.neg) ∧ w'.cell? ⟨b3, 1, none⟩ = some (.slice p n c) ∧ w'.cell? ⟨b3, 2, none⟩ = some (.int .i64 d.e)) (ds := [4]) #[false, false, false, false, false] (by kernel_rfl) rfl rfl ⟨x0, x1, x2⟩ (fun hHeld => ?_)
          refine pure_ (i := 1) (N := some 43) (v := ?_) (a' := ?_) #[false, true, false, false, false] rfl rfl (by kernel_rfl) (fun _ _ _ h => h) (Or.inl ⟨by rfl, ?_⟩) ?_ ?_
          rotate_left
          · intro w'
            go_simp
            with_reducible rfl
          rotate_left
          · simp only [Act.put, List.setIfInBounds_toArray, List.set_cons_zero, List.set_cons_succ, i64_w, i32_w]
            rfl
          refine take_ (i := 0) (N := some 42) (v := ?_) (a' := ?_) #[true, true, false, false, false] rfl rfl (by kernel_rfl) (fun _ _ _ h => h) (Or.inl ⟨by rfl, ?_⟩) hHeld ?_ ?_
          rotate_left
          · rintro w' ⟨s0, s1, s2⟩
            go_simp
            with_reducible rfl
          rotate_left
          · simp only [Act.put, List.setIfInBounds_toArray, List.set_cons_zero, List.set_cons_succ, i64_w, i32_w]
            rfl
          refine one_ (i := 2) (N := some 44) #[true, true, true, false, false] rfl rfl (by kernel_rfl) (by decide) (fun K hK => ?_)
          refine goes_ Tryz.func14 (by kernel_rfl) rfl #[.int .i64 1, .int .i64 (N : Int)] (by rfl) rfl rfl (by simp only [List.map_toArray, List.map_cons, List.map_nil]; rfl) ?_
          with_reducible refine (HOF.out.at _).mono ?_
          rintro e w9 ⟨v9, rfl, hv9, hk⟩
          have G1 := Lib.hid (M0.out.step hk)
          obtain ⟨⟨x0, x1, x2⟩, ⟨q0, q1, q2, q3, q4, q5, q6, q7, q8⟩⟩ := G1.out.cells
          have V9 := Lib.hid hv9
          obtain ⟨p9, n9, c9, b9, rfl, hs9⟩ := hv9.shape
          clear hk hv9 hs9
          refine ⟨_, rfl, ?_⟩
          refine hK.out _ _ ⟨x0, x1, x2⟩ (fun hHeld => ?_)
          clear hK K
          refine norm_ (a' := ?_) ?_ ?_
          rotate_left
          · show Act.put _ (some 44) _ = _
            simp only [Act.put, List.setIfInBounds_toArray, List.set_cons_zero, List.set_cons_succ, i64_w, i32_w]
            rfl
          refine one_ (i := 3) (N := some 45) #[true, true, true, true, false] rfl rfl (by kernel_rfl) (by decide) (fun K hK => ?_)
          refine goes_ Tryz.func18 (by kernel_rfl) rfl #[.agg #[.bool d.neg, .slice p n c, .int .i64 d.e], .agg #[.bool D9.neg, .slice p9 n9 c9, .int .i64 D9.e]] (by rfl) rfl rfl (by simp only [List.map_toArray, List.map_cons, List.map_nil]; rfl) ?_
          with_reducible refine (HTT.out.at _ _ G1.out V9.out).mono ?_
          rintro e w10 ⟨v10, rfl, hv10, hk⟩
          have G2 := Lib.hid (G1.out.step hk)
          obtain ⟨⟨x0, x1, x2⟩, ⟨q0, q1, q2, q3, q4, q5, q6, q7, q8⟩⟩ := G2.out.cells
          have V10 := Lib.hid hv10
          obtain ⟨p10, n10, c10, b10, rfl, hs10⟩ := hv10.shape
          clear hk hv10 hs10
          have hst := G2.out.store V10.out
          obtain ⟨f0, f1, f2⟩ := G2.out.froz
          generalize hW3 : (((w10.setCell ⟨b3, 0, none⟩ (.bool D10.neg)).setCell ⟨b3, 1, none⟩ (.slice p10 n10 c10)).setCell ⟨b3, 2, none⟩ (.int .i64 D10.e)) = W3 at hst
          have HST := Lib.hid hst
          clear hst
          refine ⟨_, rfl, ?_⟩
          refine hK.out _ _ ⟨x0, x1, x2⟩ (fun hHeld => ?_)
          clear hK K
          refine norm_ (a' := ?_) ?_ ?_
          rotate_left
          · show Act.put _ (some 45) _ = _
            simp only [Act.put, List.setIfInBounds_toArray, List.set_cons_zero, List.set_cons_succ, i64_w, i32_w]
            rfl
          refine last_ (i := 4) (N := none) #[true, true, true, true, true] rfl rfl (by kernel_rfl) (by decide) (fun K hK => ?_)
          refine skip_ (w1 := ?_) (by rfl) rfl ?_ ?_
          rotate_left
          · go_simp
            rfl
          refine hK.out _ _ ?_
          clear hK K
          refine done_ (by kernel_rfl) ?_
          obtain ⟨⟨x0, x1, x2⟩, ⟨q0, q1, q2, q3, q4, q5, q6, q7, q8⟩⟩ := HST.out.cells
          obtain ⟨⟨o0, o1, o2⟩, g0, g1, g2⟩ := HST.out.ocells
          have hf := HST.out.fin
          generalize hW4 : (((W3.setCell ⟨w.heap.size + 1, 0, none⟩ (.bool D10.neg)).setCell ⟨w.heap.size + 1, 1, none⟩ (.slice p10 n10 c10)).setCell ⟨w.heap.size + 1, 2, none⟩ (.int .i64 D10.e)) = W4 at hf
          obtain ⟨hf1, hf2⟩ := hf
          have HF1 := Lib.hid hf1
          have HF2 := Lib.hid hf2
          clear hf1 hf2 hX
          go_wp2_with fail
          obtain ⟨u0, u1, u2⟩ := cells3 HF2.out
          refine bodyPost_ret (v := .agg #[.bool D10.neg, .slice p10 n10 c10, .int .i64 D10.e]) ?_ rfl (by rw [← HDD.out]; exact HF1.out)
          simp [results, Tryz.f30, loadVar, go_sem, u0, u1, u2]
end Go.Proofs.YtjebnpkebccffaaGreatDoor
