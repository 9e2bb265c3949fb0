import Derived.Test.YtjebnpkebccffaaGreatDoorKDec
import Derived.OwnWalk
set_option linter.unusedSimpArgs false
set_option linter.unusedVariables false
set_option linter.unusedSectionVars false
namespace Go.Proofs.YtjebnpkebccffaaGreatDoor
open Go.RowKit
theorem Tryz.inf112 : (Tryz.prog.info? 112).map (fun i => i.size) = some 3 := by kernel_rfl
theorem ptr_dec_neq {w : World} {a b : Nat} {ca cb : Array Value} {ta tb : TypeId} (hne : a ≠ b) (ha : w.heap[a]? = some (.cells ca ta (0, 0))) (hb : w.heap[b]? = some (.cells cb tb (0, 0))) :
    (binOp .neq 61 (.pointer (some ⟨a, 0, none⟩)) (.pointer (some ⟨b, 0, none⟩))).run Tryz.prog w = .ok (.bool true) w := by
  obtain ⟨j, hte, hzz⟩ := Option.map_eq_some_iff.1 Tryz.inf112
  have hsz : j.size ≠ 0 := by omega
  have hne' : (⟨a, 0, none⟩ : Addr) ≠ ⟨b, 0, none⟩ := by intro h; injection h with h; exact hne h
  have h : ∀ d : Nat, (Op.equalIn (d + 1) 61 (.pointer (some ⟨a, 0, none⟩)) (.pointer (some ⟨b, 0, none⟩))).run Tryz.prog w = .ok false w := fun d => by
    simp [Op.equalIn, run_underlying Tryz.underlying61, sizeOf, typeInfo, hte, hsz, run_sameAddr_other w hne' ha hb]
  simp only [binOp]
  simp [Op.equal, Op.maxDepth, h 9999]
set_option maxHeartbeats 1000000 in
theorem Dec_Set_other (z x : Nat) (nz n sz sc : Int) (bz b : Option Nat) (w : World) (hz : DecAt w z nz sz bz) (hx : DecAt w x n sc b) (hne : z ≠ x) (hb : bz ≠ some x) (hs : Sep z bz x b) (hn : Sm n.natAbs) :
    Calls Tryz.prog 70 #[.pointer (some ⟨z, 0, none⟩), .pointer (some ⟨x, 0, none⟩)] w (DecRes w z bz n sc) := by
  have hq : (binOp .neq 61 (.pointer (some ⟨z, 0, none⟩)) (.pointer (some ⟨x, 0, none⟩))).run Tryz.prog w = .ok (.bool true) w := by
    obtain ⟨v1, h1, _⟩ := hz
    obtain ⟨v2, h2, _⟩ := hx
    exact ptr_dec_neq hne h1 h2
  have HZ := Lib.hid hz
  have HX := Lib.hid hx
  have HN := Lib.hid hn
  clear hz hx hn
  go_enter Tryz.func70, Tryz.ntmps70
  go_wp2_with fail
  refine (Dec_UnscaledBig x n sc b w HX.out).mono ?_
  rintro e w1 ⟨rfl, rfl⟩
  go_wp2_with fail
  refine (Dec_SetUnscaledBig z x nz n sz bz b _ 112 w HZ.out HX.out hne hb HN.out).mono ?_
  rintro e w1 ⟨rfl, b', h1, h2, h3⟩
  have hx1 : DecAt w1 x n sc b := IntAt.kept HX.out h2 (by
    rintro (h | h)
    · exact hne h.symm
    · exact hb h) (fun k hk => by
    rintro (h | h)
    · subst h; exact hs.2.2.1 hk
    · exact hs.2.2.2 k h hk)
  have H1 := Lib.hid h1
  have H2 := Lib.hid h2
  have H3 := Lib.hid h3
  have HX1 := Lib.hid hx1
  clear h1 h2 h3 hx1 hq
  go_wp2_with fail
  refine (Dec_Scale x n sc b w1 HX1.out).mono ?_
  rintro e w2 ⟨rfl, rfl⟩
  go_wp2_with fail
  refine (Dec_SetScale z n sz sc b' w1 H1.out).mono ?_
  rintro e w2 ⟨rfl, h1, h2⟩
  have HF : Hid (DecRes w z bz n sc (.returned (.pointer (some ⟨z, 0, none⟩))) w2) := ⟨rfl, b', h1, H2.out.trans h2 (fun _ _ h => h) (fun _ _ h => Or.inl h), H3.out⟩
  clear h1 h2
  go_wp2_with fail
  go_ret
  exact HF.out
def QRD (w : World) (z rn rd : Nat) (q r d s : Int) (e : Ending) (w' : World) : Prop :=
  e = .returned (.tuple #[.pointer (some ⟨z, 0, none⟩), .pointer (some ⟨rn, 0, none⟩), .pointer (some ⟨rd, 0, none⟩)]) ∧ ∃ bq br bd, DecAt w' z q s bq ∧ IntAt w' rn r br [] 109 ∧ IntAt w' rd d bd [] 109 ∧
    Kept (fun k => k = z ∨ k = rn ∨ k = rd) w w' ∧ (∀ k, bq = some k → w.heap.size ≤ k) ∧ (∀ k, br = some k → w.heap.size ≤ k) ∧ (∀ k, bd = some k → w.heap.size ≤ k)
structure QArgs (w : World) (z rn rd : Nat) : Prop where
  hz : DecAt w z 0 0 none
  hn : IntAt w rn 0 none [] 109
  hd : IntAt w rd 0 none [] 109
  zn : z ≠ rn
  zd : z ≠ rd
  nd : rn ≠ rd
theorem QArgs.old {w w' : World} {z rn rd : Nat} (h : QArgs w z rn rd) (k : Kept (fun _ => False) w w') : QArgs w' z rn rd :=
  ⟨IntAt.old h.hz k, h.hn.old k, h.hd.old k, h.zn, h.zd, h.nd⟩
structure QSt (w : World) (z rn rd ix iy : Nat) (sz : Int) (N D : Int) : Prop where
  hz : DecAt w z 0 sz none
  hn : IntAt w rn 0 none [] 109
  hd : IntAt w rd 0 none [] 109
  zn : z ≠ rn
  zd : z ≠ rd
  nd : rn ≠ rd
  ex : ∃ bx rx Tx, IntAt w ix N bx rx Tx ∧ Sep z none ix bx ∧ Sep rn none ix bx ∧ Sep rd none ix bx
  ey : ∃ by_ ry Ty, IntAt w iy D by_ ry Ty ∧ Sep z none iy by_ ∧ Sep rn none iy by_ ∧ Sep rd none iy by_
theorem sep_kept {w w' : World} {z p : Nat} {n : Int} {b : Option Nat} {r : List Value} {T : TypeId} (h : IntAt w p n b r T) (hs : Sep z none p b) (hk : Kept (fun k => k = z) w w') : IntAt w' p n b r T :=
  h.kept hk (fun e => hs.1 e.symm) (fun k hk' e => by subst e; exact hs.2.2.1 hk')
theorem QSt.scale {w w' : World} {z rn rd ix iy : Nat} {sz s N D : Int} (h : QSt w z rn rd ix iy sz N D) (h1 : DecAt w' z 0 s none) (hk : Kept (fun k => k = z) w w') : QSt w' z rn rd ix iy s N D := by
  obtain ⟨a1, a2, a3, a4, a5, a6, ⟨bx, rx, Tx, a7, a8, a9, a10⟩, ⟨by_, ry, Ty, a11, a12, a13, a14⟩⟩ := h
  exact ⟨h1, a2.kept hk (fun e => a4 e.symm) (fun _ h => by cases h), a3.kept hk (fun e => a5 e.symm) (fun _ h => by cases h), a4, a5, a6, ⟨bx, rx, Tx, sep_kept a7 a8 hk, a8, a9, a10⟩, ⟨by_, ry, Ty, sep_kept a11 a12 hk, a12, a13, a14⟩⟩
theorem QSt.old {w w' : World} {z rn rd ix iy : Nat} {sz N D : Int} (h : QSt w z rn rd ix iy sz N D) (k : Kept (fun _ => False) w w') : QSt w' z rn rd ix iy sz N D := by
  obtain ⟨a1, a2, a3, a4, a5, a6, ⟨bx, rx, Tx, a7, a8⟩, ⟨by_, ry, Ty, a11, a12⟩⟩ := h
  exact ⟨IntAt.old a1 k, a2.old k, a3.old k, a4, a5, a6, ⟨bx, rx, Tx, a7.old k, a8⟩, ⟨by_, ry, Ty, a11.old k, a12⟩⟩
def DivOK (N D : Int) : Prop := ∀ (bx by_ : Option Nat) (W : World) (vz vr vx vy : Value), NatAt W vz 0 none → NatAt W vr 0 none → NatAt W vx N.natAbs bx → NatAt W vy D.natAbs by_ → Calls Tryz.prog 196 #[vz, .pointer none, vr, vx, vy] W (QR W none none (quoN N.natAbs D.natAbs) (remN N.natAbs D.natAbs))
theorem divOK_word {N D : Int} (hN : N.natAbs < B64) (hD : D.natAbs < B64) (h0 : D ≠ 0) : DivOK N D :=
  fun bx by_ W vz vr vx vy => div_word_small 0 0 N.natAbs D.natAbs none none bx by_ hN hD (by omega) (fun _ h => by cases h) W vz vr vx vy
structure QEnd (w0 w : World) (z rn rd iy r : Nat) (q s D R : Int) : Prop where
  hz : ∃ bq, DecAt w z q s bq ∧ (∀ k, bq = some k → w0.heap.size ≤ k) ∧ Sep rn none z bq ∧ Sep rd none z bq
  hr : ∃ br, IntAt w r R br [] 109 ∧ Sep rn none r br ∧ Sep rd none r br
  hn : IntAt w rn 0 none [] 109
  hd : IntAt w rd 0 none [] 109
  nd : rn ≠ rd
  ey : ∃ by_ ry Ty, IntAt w iy D by_ ry Ty ∧ Sep rn none iy by_ ∧ Sep rd none iy by_
  kept : Kept (fun k => k = z) w0 w
theorem QSt.div {w0 w : World} {z rn rd ix iy : Nat} {s N D : Int} (h : QSt w z rn rd ix iy s N D) (hk0 : Kept (fun k => k = z) w0 w) (hD : D ≠ 0) (hdiv : DivOK N D) :
    Calls Tryz.prog 158 #[.pointer (some ⟨z, 0, none⟩), .pointer (some ⟨ix, 0, none⟩), .pointer (some ⟨iy, 0, none⟩), .pointer (some ⟨w.heap.size, 0, none⟩)] (w.alloc zInt) fun e w' =>
      e = .returned (.tuple #[.pointer (some ⟨z, 0, none⟩), .pointer (some ⟨w.heap.size, 0, none⟩)]) ∧ QEnd w0 w' z rn rd iy w.heap.size (N.tdiv D) s D (N.tmod D) := by
  have ka : Kept (fun _ => False) w (w.alloc zInt) := (Kept.refl _ _).alloc _
  have h' := h.old ka
  obtain ⟨a1, a2, a3, a4, a5, a6, ⟨bx, rx, Tx, a7, a8, a9, a10⟩, ⟨by_, ry, Ty, a11, a12, a13, a14⟩⟩ := h
  obtain ⟨c1, c2, c3, _, _, _, ⟨bx', rx', Tx', c7, _⟩, ⟨by', ry', Ty', c11, _⟩⟩ := h'
  have l1 := IntAt.lt a1
  have l2 := a2.lt
  have l3 := a3.lt
  have lx := a7.lt
  have ly := a11.lt
  have d7 := a7.old ka
  have d11 := a11.old ka
  refine (Int_QuoRem_of z ix iy w.heap.size 0 N D 0 none bx by_ none _ rx ry [] 112 Tx Ty 109 (w.alloc zInt) c1 d7 d11 (zInt_at w) a8.1 a12.1 (by omega) (by omega) (by omega) ⟨by simp, by simp, by simp, by simp, by simp, by simp⟩ hD
    (fun W vz vr vx vy => hdiv bx by_ W vz vr vx vy)).mono ?_
  rintro e w' ⟨rfl, bq, bs, e1, e2, ek, o1, o2, oa⟩
  have hbq : ∀ k, bq = some k → w.heap.size + 1 ≤ k := by
    intro k hk
    rcases o1 with o1 | ⟨j, hj, hjs⟩
    · rw [o1] at hk; cases hk
    · rw [hj] at hk; injection hk with hk; simp at hjs; omega
  have hbs : ∀ k, bs = some k → w.heap.size + 1 ≤ k := by
    intro k hk
    rcases o2 with o2 | ⟨j, hj, hjs⟩
    · rw [o2] at hk; cases hk
    · rw [hj] at hk; injection hk with hk; simp at hjs; omega
  have hnot : ∀ p b, p < w.heap.size → (∀ k, b = some k → k < w.heap.size) → p ≠ z → b ≠ some z → (¬ (p = z ∨ p = w.heap.size ∨ (none : Option Nat) = some p ∨ (none : Option Nat) = some p)) ∧ ∀ k, b = some k → ¬ (k = z ∨ k = w.heap.size ∨ (none : Option Nat) = some k ∨ (none : Option Nat) = some k) := by
    intro p b hp hb h1 h2
    refine ⟨?_, fun k hk => ?_⟩
    · rintro (h | h | h | h)
      · exact h1 h
      · omega
      · cases h
      · cases h
    · rintro (h | h | h | h)
      · subst h; exact h2 hk
      · have := hb k hk; omega
      · cases h
      · cases h
  obtain ⟨n1, n2⟩ := hnot rn none l2 (by simp) a4.symm (by simp)
  obtain ⟨m1, m2⟩ := hnot rd none l3 (by simp) a5.symm (by simp)
  obtain ⟨y1, y2⟩ := hnot iy by_ ly a11.lts (fun e => a12.1 e.symm) a12.2.2.1
  have sepn : ∀ p b q, p ≠ q → (∀ k, b = some k → w.heap.size + 1 ≤ k) → p < w.heap.size → Sep p none q b := fun p b q h1 h2 h3 => ⟨h1, by simp, fun e => by have := h2 _ e; omega, by simp⟩
  refine ⟨rfl, ⟨bq, e1, fun k hk => by have := hbq k hk; have := hk0.size; omega, sepn _ _ _ a4.symm hbq l2, sepn _ _ _ a5.symm hbq l3⟩, ⟨bs, e2, sepn _ _ _ (by omega) hbs l2, sepn _ _ _ (by omega) hbs l3⟩, c2.kept ek n1 n2, c3.kept ek m1 m2, a6, ⟨by_, ry, Ty, d11.kept ek y1 y2, a13, a14⟩, ?_⟩
  refine (hk0.trans ka (fun _ _ h => h) (fun _ _ f => f.elim)).trans ek (fun _ _ h => h) (fun i hi h => ?_)
  have := hk0.size
  rcases h with h | h | h | h
  · exact h
  · omega
  · cases h
  · cases h
theorem set_of {w : World} {rn r : Nat} {R : Int} {br : Option Nat} {rr : List Value} {Tr : TypeId} (hn : IntAt w rn 0 none [] 109) (hr : IntAt w r R br rr Tr) (hs : Sep rn none r br) (hR : Sm R.natAbs) :
    Calls Tryz.prog 97 #[.pointer (some ⟨rn, 0, none⟩), .pointer (some ⟨r, 0, none⟩)] w fun e w' => e = .returned (.pointer (some ⟨rn, 0, none⟩)) ∧ ∃ b', IntAt w' rn R b' [] 109 ∧ Kept (fun k => k = rn) w w' ∧ (∀ k, b' = some k → w.heap.size ≤ k) := by
  refine (Int_Set rn r 0 R none br [] rr 109 Tr w hn hr hs.1 (by simp) hR).mono ?_
  rintro e w' ⟨rfl, b', h1, h2, h3⟩
  refine ⟨rfl, b', h1, h2.mono (fun i hi h => ?_), fun k hk => ?_⟩
  · rcases h with h | h
    · exact h
    · cases h
  · rcases h3 with h3 | ⟨j, hj, hjs⟩
    · rw [h3] at hk; cases hk
    · rw [hj] at hk; injection hk with hk; omega
theorem QEnd.num {w0 w : World} {z rn rd iy r : Nat} {q s D R : Int} (h : QEnd w0 w z rn rd iy r q s D R) (hR : Sm R.natAbs) :
    Calls Tryz.prog 97 #[.pointer (some ⟨rn, 0, none⟩), .pointer (some ⟨r, 0, none⟩)] w fun e w' => e = .returned (.pointer (some ⟨rn, 0, none⟩)) ∧
      (∃ bq, DecAt w' z q s bq ∧ (∀ k, bq = some k → w0.heap.size ≤ k) ∧ Sep rd none z bq) ∧ (∃ br, IntAt w' rn R br [] 109 ∧ (∀ k, br = some k → w0.heap.size ≤ k) ∧ Sep rd none rn br) ∧ IntAt w' rd 0 none [] 109 ∧ (∃ by_ ry Ty, IntAt w' iy D by_ ry Ty ∧ Sep rd none iy by_) ∧ Kept (fun k => k = z ∨ k = rn) w0 w' := by
  obtain ⟨⟨bq, q1, q2, q3, q4⟩, ⟨br, r1, r2, r3⟩, a1, a2, nd, ⟨by_, ry, Ty, y1, y2, y3⟩, hk⟩ := h
  refine (set_of a1 r1 r2 hR).mono ?_
  rintro e w' ⟨rfl, b', h1, h2, h3⟩
  have hl := a2.lt
  exact ⟨rfl, ⟨bq, sep_kept q1 q3 h2, q2, q4⟩, ⟨b', h1, fun k hk' => by have := h3 k hk'; have := hk.size; omega, ⟨nd.symm, by simp, fun e => by have := h3 _ e; omega, by simp⟩⟩, a2.kept h2 nd.symm (fun _ h => by cases h), ⟨by_, ry, Ty, sep_kept y1 y2 h2, y3⟩, hk.trans h2 (fun _ _ h => Or.inl h) (fun _ _ h => Or.inr h)⟩
theorem QEnd.den {w0 w' : World} {z rn rd iy : Nat} {q s D R : Int} (h : (∃ bq, DecAt w' z q s bq ∧ (∀ k, bq = some k → w0.heap.size ≤ k) ∧ Sep rd none z bq) ∧ (∃ br, IntAt w' rn R br [] 109 ∧ (∀ k, br = some k → w0.heap.size ≤ k) ∧ Sep rd none rn br) ∧ IntAt w' rd 0 none [] 109 ∧ (∃ by_ ry Ty, IntAt w' iy D by_ ry Ty ∧ Sep rd none iy by_) ∧ Kept (fun k => k = z ∨ k = rn) w0 w') (hD : Sm D.natAbs) :
    Calls Tryz.prog 97 #[.pointer (some ⟨rd, 0, none⟩), .pointer (some ⟨iy, 0, none⟩)] w' fun e w'' => e = .returned (.pointer (some ⟨rd, 0, none⟩)) ∧ QRD w0 z rn rd q R D s (.returned (.tuple #[.pointer (some ⟨z, 0, none⟩), .pointer (some ⟨rn, 0, none⟩), .pointer (some ⟨rd, 0, none⟩)])) w'' := by
  obtain ⟨⟨bq, q1, q2, q3⟩, ⟨br, r1, r2, r3⟩, a2, ⟨by_, ry, Ty, y1, y2⟩, hk⟩ := h
  refine (set_of a2 y1 y2 hD).mono ?_
  rintro e w'' ⟨rfl, b', h1, h2, h3⟩
  refine ⟨rfl, rfl, bq, br, b', sep_kept q1 q3 h2, sep_kept r1 r3 h2, h1, ?_, q2, r2, fun k hk' => by have := h3 k hk'; have := hk.size; omega⟩
  exact hk.trans h2 (fun _ _ h => by rcases h with h | h; exact Or.inl h; exact Or.inr (Or.inl h)) (fun _ _ h => Or.inr (Or.inr h))
theorem kept_pre {w0 w w' : World} {z : Nat} (h : Kept (fun _ => False) w0 w) (k : Kept (fun k => k = z) w w') : Kept (fun k => k = z) w0 w' := h.trans k (fun _ _ f => f.elim) (fun _ _ h => h)
theorem sep_new {w w' : World} {z p : Nat} {b : Option Nat} (hz : z < w.heap.size) (hp : w.heap.size ≤ p) (hb : ∀ k, b = some k → w.heap.size ≤ k) : Sep z none p b :=
  ⟨by omega, by simp, fun e => by have := hb _ e; omega, by simp⟩
set_option maxHeartbeats 1000000 in
theorem quoRem_same (z x y rn rd : Nat) (n m sc s : Int) (b c : Option Nat) (w : World) (hq : QArgs w z rn rd) (hx : DecAt w x n sc b) (hy : DecAt w y m 0 c) (sx : Sep z none x b ∧ Sep rn none x b ∧ Sep rd none x b) (sy : Sep z none y c ∧ Sep rn none y c ∧ Sep rd none y c) (hs : sc = s) (hb : -2000000000 ≤ s ∧ s ≤ 2000000000) (hD : m ≠ 0) (hdv : DivOK n m) (hRs : Sm (n.tmod m).natAbs) (hms : Sm m.natAbs) :
    Calls Tryz.prog 180 #[.pointer (some ⟨z, 0, none⟩), .pointer (some ⟨x, 0, none⟩), .pointer (some ⟨y, 0, none⟩), .int .i32 s, .bool true, .pointer (some ⟨rn, 0, none⟩), .pointer (some ⟨rd, 0, none⟩)] w (QRD w z rn rd (n.tdiv m) (n.tmod m) m s) := by
  subst hs
  have e1 : IntKind.i32.wrap (sc - 0) = sc := by rw [IntKind.wrap_i32]; omega
  have e2 : IntKind.i32.wrap (sc - sc) = 0 := by rw [IntKind.wrap_i32]; omega
  have e3 : sc - sc = 0 := by omega
  have HX := Lib.hid hx
  have HY := Lib.hid hy
  have hdiv := Lib.hid hdv
  have hR := Lib.hid hRs
  have hDs := Lib.hid hms
  have QS : Hid (QSt w z rn rd x y 0 n m) := ⟨hq.hz, hq.hn, hq.hd, hq.zn, hq.zd, hq.nd, ⟨b, _, _, hx, sx⟩, ⟨c, _, _, hy, sy⟩⟩
  have KW : Hid (Kept (fun _ => False) w w) := Kept.refl _ _
  clear hq hx hy sx sy hdv hRs hms
  go_enter Tryz.func180, Tryz.ntmps180
  go_wp2_with fail
  refine (Dec_Scale x n sc b w HX.out).mono ?_
  rintro e w1 ⟨rfl, rfl⟩
  go_wp2_with fail
  refine (Dec_Scale y m 0 c w HY.out).mono ?_
  rintro e w1 ⟨rfl, rfl⟩
  go_wp2_with fail
  refine (Dec_UnscaledBig x n sc b w HX.out).mono ?_
  rintro e w1 ⟨rfl, rfl⟩
  go_wp2_with fail
  refine (Dec_UnscaledBig y m 0 c w HY.out).mono ?_
  rintro e w1 ⟨rfl, rfl⟩
  have hqe : (binOp .eql 117 (.pointer (some ⟨y, 0, none⟩)) (.pointer (some ⟨z, 0, none⟩))).run Tryz.prog w = .ok (.bool false) w := by
    obtain ⟨a1, a2, a3, a4, a5, a6, ⟨bx, rx, Tx, a7, a8⟩, ⟨by_, ry, Ty, ⟨vy, y1, _⟩, a12⟩⟩ := QS.out
    obtain ⟨vz, z1, _⟩ := a1
    exact ptr_int_other a12.1.1.symm y1 z1
  go_wp2_with fail
  refine (Dec_UnscaledBig z 0 0 none w QS.out.hz).mono ?_
  rintro e w9 ⟨rfl, rfl⟩
  go_wp2_with fail
  refine (Dec_SetScale z 0 0 sc none w QS.out.hz).mono ?_
  rintro e w10 ⟨rfl, h1, h2⟩
  have QT := Lib.hid (QS.out.scale h1 h2)
  have KT := Lib.hid (kept_pre KW.out h2)
  clear h1 h2 QS KW hqe
  go_wp2_with fail
  refine (Dec_UnscaledBig z 0 sc none w10 QT.out.hz).mono ?_
  rintro e w11 ⟨rfl, rfl⟩
  go_wp2_with fail
  refine (QT.out.div KT.out hD hdiv.out).mono ?_
  rintro e w11 ⟨rfl, h1⟩
  have QE := Lib.hid h1
  clear h1 QT KT
  go_wp2_with fail
  refine (QE.out.num hR.out).mono ?_
  rintro e w12 ⟨rfl, h1⟩
  have QN := Lib.hid h1
  clear h1 QE
  go_wp2_with fail
  refine (QEnd.den QN.out hDs.out).mono ?_
  rintro e w13 ⟨rfl, h1⟩
  have QF := Lib.hid h1
  clear h1 QN
  go_wp2_with fail
  go_ret3
  exact QF.out
set_option maxHeartbeats 1000000 in
theorem quoRem_up (k M : Nat) (hM : 10 ^ k = M) (hk1 : 1 ≤ k) (hk : k < 20) (z x y rn rd : Nat) (n m sc s : Int) (b c : Option Nat) (w : World) (hq : QArgs w z rn rd) (hx : DecAt w x n sc b) (hy : DecAt w y m 0 c) (sx : Sep z none x b ∧ Sep rn none x b ∧ Sep rd none x b) (sy : Sep z none y c ∧ Sep rn none y c ∧ Sep rd none y c) (hs : s - sc = (k : Int)) (hb : -1000000000 ≤ s ∧ s ≤ 1000000000 ∧ -1000000000 ≤ sc ∧ sc ≤ 1000000000) (hD : m ≠ 0) (hdv : DivOK (n * (M : Int)) m) (hRs : Sm ((n * (M : Int)).tmod m).natAbs) (hms : Sm m.natAbs) (hfs : Sm n.natAbs) :
    Calls Tryz.prog 180 #[.pointer (some ⟨z, 0, none⟩), .pointer (some ⟨x, 0, none⟩), .pointer (some ⟨y, 0, none⟩), .int .i32 s, .bool true, .pointer (some ⟨rn, 0, none⟩), .pointer (some ⟨rd, 0, none⟩)] w (QRD w z rn rd ((n * (M : Int)).tdiv m) ((n * (M : Int)).tmod m) m s) := by
  have hM0 : M ≠ 0 := by have := Nat.pow_pos (n := k) (show 0 < 10 by omega); omega
  have hMw : M < B64 := by have := pow10_word hk; omega
  have HM := Lib.hid hM
  have e1 : IntKind.i32.wrap (sc - 0) = sc := by rw [IntKind.wrap_i32]; omega
  have e2 : s - sc = (k : Int) := hs
  have g2 : decide ((0 : Int) < (k : Int)) = true := decT (by omega)
  have HX := Lib.hid hx
  have HY := Lib.hid hy
  have hdiv := Lib.hid hdv
  have hR := Lib.hid hRs
  have hDs := Lib.hid hms
  have HFS := Lib.hid hfs
  have HQ := Lib.hid hq
  have SX := Lib.hid sx
  have SY := Lib.hid sy
  clear hq hx hy sx sy hdv hRs hms hM hfs
  go_enter Tryz.func180, Tryz.ntmps180
  go_wp2_with fail
  refine (Dec_Scale x n sc b w HX.out).mono ?_
  rintro e w1 ⟨rfl, rfl⟩
  go_wp2_with fail
  refine (Dec_Scale y m 0 c w HY.out).mono ?_
  rintro e w1 ⟨rfl, rfl⟩

  go_wp2_with fail
  have ka : Kept (fun _ => False) w (w.alloc zInt) := (Kept.refl _ _).alloc _
  have KA := Lib.hid ka
  clear ka
  refine (Dec_UnscaledBig x n sc b (w.alloc zInt) (IntAt.old HX.out KA.out)).mono ?_
  rintro e w1 ⟨rfl, rfl⟩
  go_wp2_with fail
  refine (exp10_any k hk1 (by omega) _).mono ?_
  rintro e w2 ⟨p2, b2, rfl, hp2, a2, k2, q2⟩
  rw [HM.out] at a2
  have A2 := Lib.hid a2
  have K2 := Lib.hid k2
  have P2 : Hid (w.heap.size + 1 ≤ p2) := Lib.hid (by simpa using hp2)
  clear a2 k2 q2 hp2
  go_wp2_with fail
  have hlf := IntAt.lt HX.out
  refine (Int_Mul_word w.heap.size x p2 0 n (M : Int) none b b2 [] _ [] 109 112 109 w2 ((zInt_at w).old K2.out) ((IntAt.old HX.out KA.out).old K2.out) A2.out (by have := P2.out; omega) (Or.inr ⟨by omega, by simp⟩) (by have := P2.out; omega) (by simp) (by omega) (by rw [Int.natAbs_natCast]; exact hMw) HFS.out).mono ?_
  rintro e w4 h
  obtain ⟨p4, b4, rfl, hp4, a4, k4, q4⟩ := new_of (w := w) (w1 := w2) (Nat.le_refl _) (KA.out.trans K2.out (fun _ _ f => f) (fun _ _ f => f)) (Nat.le_refl _) h
  have A4 := Lib.hid a4
  have K4 := Lib.hid k4
  have P4 := Lib.hid hp4
  have Q4 := Lib.hid q4
  clear h a4 k4 hp4 q4 A2 K2 P2 hlf
  go_wp2_with fail
  refine (Dec_UnscaledBig y m 0 c w4 (IntAt.old HY.out K4.out)).mono ?_
  rintro e w5 ⟨rfl, rfl⟩
  have QS : Hid (QSt w4 z rn rd p4 y 0 (n * (M : Int)) m) := by
    have hQ := HQ.out.old K4.out
    have sn : ∀ {q : Nat}, q < w.heap.size → Sep q none p4 b4 := fun h => sep_new (w' := w) h P4.out Q4.out
    exact ⟨hQ.hz, hQ.hn, hQ.hd, hQ.zn, hQ.zd, hQ.nd, ⟨b4, [], 109, A4.out, sn (IntAt.lt HQ.out.hz), sn HQ.out.hn.lt, sn HQ.out.hd.lt⟩, ⟨c, _, _, IntAt.old HY.out K4.out, SY.out⟩⟩
  have KW : Hid (Kept (fun _ => False) w w4) := K4.out
  clear HQ SX SY
  have hqe : (binOp .eql 117 (.pointer (some ⟨y, 0, none⟩)) (.pointer (some ⟨z, 0, none⟩))).run Tryz.prog w4 = .ok (.bool false) w4 := by
    obtain ⟨a1, a2, a3, a4, a5, a6, ⟨bx, rx, Tx, a7, a8⟩, ⟨by_, ry, Ty, ⟨vy, y1, _⟩, a12⟩⟩ := QS.out
    obtain ⟨vz, z1, _⟩ := a1
    exact ptr_int_other a12.1.1.symm y1 z1
  go_wp2_with fail
  refine (Dec_UnscaledBig z 0 0 none w4 QS.out.hz).mono ?_
  rintro e w9 ⟨rfl, rfl⟩
  go_wp2_with fail
  refine (Dec_SetScale z 0 0 s none w4 QS.out.hz).mono ?_
  rintro e w10 ⟨rfl, h1, h2⟩
  have QT := Lib.hid (QS.out.scale h1 h2)
  have KT := Lib.hid (kept_pre KW.out h2)
  clear h1 h2 QS KW hqe
  go_wp2_with fail
  refine (Dec_UnscaledBig z 0 s none w10 QT.out.hz).mono ?_
  rintro e w11 ⟨rfl, rfl⟩
  go_wp2_with fail
  refine (QT.out.div KT.out hD hdiv.out).mono ?_
  rintro e w11 ⟨rfl, h1⟩
  have QE := Lib.hid h1
  clear h1 QT KT
  go_wp2_with fail
  refine (QE.out.num hR.out).mono ?_
  rintro e w12 ⟨rfl, h1⟩
  have QN := Lib.hid h1
  clear h1 QE
  go_wp2_with fail
  refine (QEnd.den QN.out hDs.out).mono ?_
  rintro e w13 ⟨rfl, h1⟩
  have QF := Lib.hid h1
  clear h1 QN
  go_wp2_with fail
  go_ret3
  exact QF.out
set_option maxHeartbeats 1000000 in
theorem quoRem_down (k M : Nat) (hM : 10 ^ k = M) (hk1 : 1 ≤ k) (hk : k < 20) (z x y rn rd : Nat) (n m sc s : Int) (b c : Option Nat) (w : World) (hq : QArgs w z rn rd) (hx : DecAt w x n sc b) (hy : DecAt w y m 0 c) (sx : Sep z none x b ∧ Sep rn none x b ∧ Sep rd none x b) (sy : Sep z none y c ∧ Sep rn none y c ∧ Sep rd none y c) (hs : sc - s = (k : Int)) (hb : -1000000000 ≤ s ∧ s ≤ 1000000000 ∧ -1000000000 ≤ sc ∧ sc ≤ 1000000000) (hD : (m * (M : Int)) ≠ 0) (hdv : DivOK n (m * (M : Int))) (hRs : Sm (n.tmod (m * (M : Int))).natAbs) (hms : Sm (m * (M : Int)).natAbs) (hfs : Sm m.natAbs) :
    Calls Tryz.prog 180 #[.pointer (some ⟨z, 0, none⟩), .pointer (some ⟨x, 0, none⟩), .pointer (some ⟨y, 0, none⟩), .int .i32 s, .bool true, .pointer (some ⟨rn, 0, none⟩), .pointer (some ⟨rd, 0, none⟩)] w (QRD w z rn rd (n.tdiv (m * (M : Int))) (n.tmod (m * (M : Int))) (m * (M : Int)) s) := by
  have hM0 : M ≠ 0 := by have := Nat.pow_pos (n := k) (show 0 < 10 by omega); omega
  have hMw : M < B64 := by have := pow10_word hk; omega
  have HM := Lib.hid hM
  have e1 : IntKind.i32.wrap (sc - 0) = sc := by rw [IntKind.wrap_i32]; omega
  have e2 : s - sc = -(k : Int) := by omega
  have g2 : decide ((0 : Int) < -(k : Int)) = false := decF (by omega)
  have g3 : decide (-(k : Int) < 0) = true := decT (by omega)
  have HX := Lib.hid hx
  have HY := Lib.hid hy
  have hdiv := Lib.hid hdv
  have hR := Lib.hid hRs
  have hDs := Lib.hid hms
  have HFS := Lib.hid hfs
  have HQ := Lib.hid hq
  have SX := Lib.hid sx
  have SY := Lib.hid sy
  clear hq hx hy sx sy hdv hRs hms hM hfs
  go_enter Tryz.func180, Tryz.ntmps180
  go_wp2_with fail
  refine (Dec_Scale x n sc b w HX.out).mono ?_
  rintro e w1 ⟨rfl, rfl⟩
  go_wp2_with fail
  refine (Dec_Scale y m 0 c w HY.out).mono ?_
  rintro e w1 ⟨rfl, rfl⟩

  go_wp2_with fail
  refine (Dec_UnscaledBig x n sc b w HX.out).mono ?_
  rintro e w1 ⟨rfl, rfl⟩
  go_wp2_with fail
  have ka : Kept (fun _ => False) w (w.alloc zInt) := (Kept.refl _ _).alloc _
  have KA := Lib.hid ka
  clear ka
  refine (Dec_UnscaledBig y m 0 c (w.alloc zInt) (IntAt.old HY.out KA.out)).mono ?_
  rintro e w1 ⟨rfl, rfl⟩
  go_wp2_with fail
  refine (exp10_any k hk1 (by omega) _).mono ?_
  rintro e w2 ⟨p2, b2, rfl, hp2, a2, k2, q2⟩
  rw [HM.out] at a2
  have A2 := Lib.hid a2
  have K2 := Lib.hid k2
  have P2 : Hid (w.heap.size + 1 ≤ p2) := Lib.hid (by simpa using hp2)
  clear a2 k2 q2 hp2
  go_wp2_with fail
  have hlf := IntAt.lt HY.out
  refine (Int_Mul_word w.heap.size y p2 0 m (M : Int) none c b2 [] _ [] 109 112 109 w2 ((zInt_at w).old K2.out) ((IntAt.old HY.out KA.out).old K2.out) A2.out (by have := P2.out; omega) (Or.inr ⟨by omega, by simp⟩) (by have := P2.out; omega) (by simp) (by omega) (by rw [Int.natAbs_natCast]; exact hMw) HFS.out).mono ?_
  rintro e w4 h
  obtain ⟨p4, b4, rfl, hp4, a4, k4, q4⟩ := new_of (w := w) (w1 := w2) (Nat.le_refl _) (KA.out.trans K2.out (fun _ _ f => f) (fun _ _ f => f)) (Nat.le_refl _) h
  have A4 := Lib.hid a4
  have K4 := Lib.hid k4
  have P4 := Lib.hid hp4
  have Q4 := Lib.hid q4
  clear h a4 k4 hp4 q4 A2 K2 P2 hlf
  go_wp2_with fail
  have QS : Hid (QSt w4 z rn rd x p4 0 n (m * (M : Int))) := by
    have hQ := HQ.out.old K4.out
    have sn : ∀ {q : Nat}, q < w.heap.size → Sep q none p4 b4 := fun h => sep_new (w' := w) h P4.out Q4.out
    exact ⟨hQ.hz, hQ.hn, hQ.hd, hQ.zn, hQ.zd, hQ.nd, ⟨b, _, _, IntAt.old HX.out K4.out, SX.out⟩, ⟨b4, [], 109, A4.out, sn (IntAt.lt HQ.out.hz), sn HQ.out.hn.lt, sn HQ.out.hd.lt⟩⟩
  have KW : Hid (Kept (fun _ => False) w w4) := K4.out
  clear HQ SX SY
  have hqe : (binOp .eql 117 (.pointer (some ⟨p4, 0, none⟩)) (.pointer (some ⟨z, 0, none⟩))).run Tryz.prog w4 = .ok (.bool false) w4 := by
    obtain ⟨a1, a2, a3, a4, a5, a6, ⟨bx, rx, Tx, a7, a8⟩, ⟨by_, ry, Ty, ⟨vy, y1, _⟩, a12⟩⟩ := QS.out
    obtain ⟨vz, z1, _⟩ := a1
    exact ptr_int_other a12.1.1.symm y1 z1
  go_wp2_with fail
  refine (Dec_UnscaledBig z 0 0 none w4 QS.out.hz).mono ?_
  rintro e w9 ⟨rfl, rfl⟩
  go_wp2_with fail
  refine (Dec_SetScale z 0 0 s none w4 QS.out.hz).mono ?_
  rintro e w10 ⟨rfl, h1, h2⟩
  have QT := Lib.hid (QS.out.scale h1 h2)
  have KT := Lib.hid (kept_pre KW.out h2)
  clear h1 h2 QS KW hqe
  go_wp2_with fail
  refine (Dec_UnscaledBig z 0 s none w10 QT.out.hz).mono ?_
  rintro e w11 ⟨rfl, rfl⟩
  go_wp2_with fail
  refine (QT.out.div KT.out hD hdiv.out).mono ?_
  rintro e w11 ⟨rfl, h1⟩
  have QE := Lib.hid h1
  clear h1 QT KT
  go_wp2_with fail
  refine (QE.out.num hR.out).mono ?_
  rintro e w12 ⟨rfl, h1⟩
  have QN := Lib.hid h1
  clear h1 QE
  go_wp2_with fail
  refine (QEnd.den QN.out hDs.out).mono ?_
  rintro e w13 ⟨rfl, h1⟩
  have QF := Lib.hid h1
  clear h1 QN
  go_wp2_with fail
  go_ret3
  exact QF.out
end Go.Proofs.YtjebnpkebccffaaGreatDoor
