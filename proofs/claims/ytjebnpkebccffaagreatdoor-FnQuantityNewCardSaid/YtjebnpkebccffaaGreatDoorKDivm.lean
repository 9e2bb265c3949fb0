import Derived.Test.YtjebnpkebccffaaGreatDoorKIntd
import Derived.Test.YtjebnpkebccffaaGreatDoorKLsh
set_option linter.unusedSimpArgs false
set_option linter.unusedVariables false
set_option linter.unusedSectionVars false
namespace Go.Proofs.YtjebnpkebccffaaGreatDoor
open Go.RowKit
theorem QRRes.undrew {w : World} {k : Nat} {z r : Nat} {bz br : Option Nat} {q s : Int} {rz rr : List Value} {Tz Tr : TypeId} {e : Ending} {w' : World} (h : QRRes (w.drewN k) z r bz br q s rz rr Tz Tr e w') : QRRes w z r bz br q s rz rr Tz Tr e w' := by
  obtain ⟨h1, bq, bs, h2, h3, h4, h5, h6, h7⟩ := h
  exact ⟨h1, bq, bs, h2, h3, h4.undrewN, h5, h6, h7⟩
theorem IntAt.drewN {w : World} {p : Nat} {n : Int} {b : Option Nat} {rest : List Value} {T : TypeId} (h : IntAt w p n b rest T) (k : Nat) : IntAt (w.drewN k) p n b rest T := h.move rfl (fun _ _ => rfl)
theorem aliasB_false {a b : Option Nat} (h : ∀ k, a = some k → b ≠ some k) : aliasB a b = false := by
  unfold aliasB
  cases a with
  | none => rfl
  | some k =>
    have := h k rfl
    cases b with
    | none => rfl
    | some j =>
      have hne : k ≠ j := by intro e; subst e; exact this rfl
      simp [hne]
set_option maxRecDepth 100000 in
set_option maxHeartbeats 2000000 in
theorem Int_DivMod_of (z x y r : Nat) (nz n m nr : Int) (bz bx by_ br : Option Nat) (rz rx ry rr : List Value) (Tz Tx Ty Tr : TypeId) (w : World) (hz : IntAt w z nz bz rz Tz) (hx : IntAt w x n bx rx Tx) (hy : IntAt w y m by_ ry Ty) (hr : IntAt w r nr br rr Tr)
    (hzx : z ≠ x) (hzy : z ≠ y) (hrx : r ≠ x) (hry : r ≠ y) (hzr : z ≠ r) (hb : bz ≠ some x ∧ bz ≠ some y ∧ bz ≠ some r ∧ br ≠ some x ∧ br ≠ some y ∧ br ≠ some z) (hap : ∀ k, bz = some k → by_ ≠ some k)
    (hn0 : 0 ≤ n) (hm0 : 0 < m)
    (hdiv : ∀ (W : World) (vz vr vx vy : Value), NatAt W vz nz.natAbs bz → NatAt W vr nr.natAbs br → NatAt W vx n.natAbs bx → NatAt W vy m.natAbs by_ → Calls Tryz.prog 196 #[vz, .pointer none, vr, vx, vy] W (QR W bz br (quoN n.natAbs m.natAbs) (remN n.natAbs m.natAbs))) :
    Calls Tryz.prog 119 #[.pointer (some ⟨z, 0, none⟩), .pointer (some ⟨x, 0, none⟩), .pointer (some ⟨y, 0, none⟩), .pointer (some ⟨r, 0, none⟩)] w (QRRes w z r bz br (n.tdiv m) (n.tmod m) rz rr Tz Tr) := by
  have HQ : Hid (∀ k, Calls Tryz.prog 158 #[.pointer (some ⟨z, 0, none⟩), .pointer (some ⟨x, 0, none⟩), .pointer (some ⟨y, 0, none⟩), .pointer (some ⟨r, 0, none⟩)] (w.drewN k) (QRRes (w.drewN k) z r bz br (n.tdiv m) (n.tmod m) rz rr Tz Tr)) :=
    fun k => Int_QuoRem_of z x y r nz n m nr bz bx by_ br rz rx ry rr Tz Tx Ty Tr (w.drewN k) (hz.drewN k) (hx.drewN k) (hy.drewN k) (hr.drewN k) hzx hzy hrx hry hzr hb (by omega) hdiv
  obtain ⟨vz, hz1, hz2, hz3⟩ := hz
  obtain ⟨vy, hy1, hy2, hy3⟩ := hy
  have hq := fun n => ptr_int_other (w := w.drewN n) hzy hz1 hy1
  obtain ⟨cz0, cz1, fz0, fz1⟩ := int_cells hz1
  obtain ⟨cy0, cy1, _, _⟩ := int_cells hy1
  have hal := fun n => alias_any vz vy bz by_ (w.drewN n) (by exact hz2.buf) (by exact hy2.buf)
  rw [aliasB_false hap] at hal
  have HAL := Lib.hid hal
  have hs : (∀ e w', QRRes w z r bz br (n.tdiv m) (n.tmod m) rz rr Tz Tr e w' → w'.cell? ⟨r, 0, none⟩ = some (.bool false)) := by
    intro e w' ⟨_, bq, bs, _, ⟨v, h1, _, _⟩, _⟩
    have : ¬ (n.tmod m < 0) := by have := Int.tmod_nonneg m hn0; omega
    rw [decF this] at h1
    exact (int_cells h1).1
  have HS := Lib.hid hs
  clear hz1 hz2 hy1 hy2 hal hs hx hr hdiv
  go_enter Tryz.func119, Tryz.ntmps119
  go_wp2_with fail
  go_quiet ((go_at_call 133; first | exact quiet_add (HAL.out _) | exact quiet_one (HAL.out _)))
  go_wp2_with fail
  refine (HQ.out _).mono ?_
  rintro e w2 h
  have h := h.undrew
  have c := HS.out _ _ h
  have he := h.1
  subst he
  have H := Lib.hid h
  clear h HS HQ HAL cz0 cz1 fz0 fz1 cy0 cy1
  go_wp2_with fail
  go_ret2
  exact H.out
end Go.Proofs.YtjebnpkebccffaaGreatDoor
namespace Go.Proofs.YtjebnpkebccffaaGreatDoor
open Go.RowKit
def Sep (p : Nat) (b : Option Nat) (q : Nat) (c : Option Nat) : Prop := p ≠ q ∧ b ≠ some q ∧ c ≠ some p ∧ ∀ k, b = some k → c ≠ some k
theorem Sep.symm {p q : Nat} {b c : Option Nat} (h : Sep p b q c) : Sep q c p b := ⟨h.1.symm, h.2.2.1, h.2.1, fun k hc hb => h.2.2.2 k hb hc⟩
theorem Sep.own {w : World} {p q : Nat} {b b' c : Option Nat} (h : Sep p b q c) (ho : Own w b b') (hq : q < w.heap.size) (hc : ∀ k, c = some k → k < w.heap.size) : Sep p b' q c := by
  rcases ho with rfl | ⟨j, rfl, hj⟩
  · exact h
  · refine ⟨h.1, fun e => ?_, h.2.2.1, fun k hk hc' => ?_⟩
    · injection e with e; omega
    · injection hk with hk; have := hc k hc'; omega
theorem Sep.fresh {w : World} {p q : Nat} {b c : Option Nat} (hp : w.heap.size ≤ p) (hb : ∀ k, b = some k → w.heap.size ≤ k) (hq : q < w.heap.size) (hc : ∀ k, c = some k → k < w.heap.size) : Sep p b q c := by
  refine ⟨by omega, fun e => ?_, fun e => ?_, fun k hk hc' => ?_⟩
  · have := hb _ e; omega
  · have := hc _ e; omega
  · have := hb _ hk; have := hc _ hc'; omega
theorem div_word_small (a c n m : Nat) (bz br bx by_ : Option Nat) (hn : n < B64) (hm : m < B64) (hm0 : m ≠ 0) (hap : ∀ k, bz = some k → br ≠ some k) :
    ∀ (W : World) (vz vr vx vy : Value), NatAt W vz a bz → NatAt W vr c br → NatAt W vx n bx → NatAt W vy m by_ → Calls Tryz.prog 196 #[vz, .pointer none, vr, vx, vy] W (QR W bz br (quoN n m) (remN n m)) :=
  fun W vz vr vx vy hz hr hx hy => div_by_word none vz vr vx vy bz br bx by_ n m W hz.buf hr.buf hy hx hm hm0 hap (divW_small vz vx bz bx n m W hz.buf hx hn hm hm0)
theorem Int_DivMod_small (z x y r n m : Nat) (nz nr : Int) (bz bx by_ br : Option Nat) (rz rx ry rr : List Value) (Tz Tx Ty Tr : TypeId) (w : World) (hz : IntAt w z nz bz rz Tz) (hx : IntAt w x (n : Int) bx rx Tx) (hy : IntAt w y (m : Int) by_ ry Ty) (hr : IntAt w r nr br rr Tr)
    (h1 : Sep z bz x bx) (h2 : Sep z bz y by_) (h3 : Sep r br x bx) (h4 : Sep r br y by_) (h5 : Sep z bz r br) (hn : n < B64) (hm : m < B64) (hm0 : m ≠ 0) :
    Calls Tryz.prog 119 #[.pointer (some ⟨z, 0, none⟩), .pointer (some ⟨x, 0, none⟩), .pointer (some ⟨y, 0, none⟩), .pointer (some ⟨r, 0, none⟩)] w (QRRes w z r bz br ((n / m : Nat) : Int) ((n % m : Nat) : Int) rz rr Tz Tr) := by
  have := Int_DivMod_of z x y r nz (n : Int) (m : Int) nr bz bx by_ br rz rx ry rr Tz Tx Ty Tr w hz hx hy hr h1.1 h2.1 h3.1 h4.1 h5.1 ⟨h1.2.1, h2.2.1, h5.2.1, h3.2.1, h4.2.1, h5.2.2.1⟩ h2.2.2.2 (by omega) (by omega)
    (div_word_small _ _ _ _ bz br bx by_ (by rw [Int.natAbs_natCast]; exact hn) (by rw [Int.natAbs_natCast]; exact hm) (by rw [Int.natAbs_natCast]; exact hm0) h5.2.2.2)
  have e1 : (n : Int).tdiv (m : Int) = ((n / m : Nat) : Int) := rfl
  have e2 : (n : Int).tmod (m : Int) = ((n % m : Nat) : Int) := rfl
  rw [e1, e2] at this
  exact this
end Go.Proofs.YtjebnpkebccffaaGreatDoor
