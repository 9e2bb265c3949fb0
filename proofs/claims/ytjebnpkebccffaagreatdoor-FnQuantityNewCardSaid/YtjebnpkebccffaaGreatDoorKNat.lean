import Derived.Test.YtjebnpkebccffaaGreatDoorKBits
import Derived.LaidEqlPtr
set_option linter.unusedSimpArgs false
set_option linter.unusedVariables false
set_option linter.unusedSectionVars false
namespace Go.Proofs.YtjebnpkebccffaaGreatDoor
open Go.RowKit
set_option maxHeartbeats 1000000 in
theorem norm_any (b o c m : Nat) (l : List Nat) (cs : Array Value) (T : TypeId) (w : World) (hm : l.length = m) (hm1 : m ≤ 1000000) (hmc : m ≤ c) (hl : ∀ x ∈ l, x < B64)
    (hb : w.heap[b]? = some (.cells cs T (0, 0))) (hc : Has cs o l) :
    Calls Tryz.prog 137 #[.slice (some ⟨b, o, none⟩) m c] w fun e w' => e = .returned (.slice (some ⟨b, o, none⟩) (dig (val l)).length c) ∧ w = w' := by
  have HM := Lib.hid hm
  have HB := Lib.hid hb
  have HC := Lib.hid hc
  have HL := Lib.hid hl
  have hd : (dig (val l)).length ≤ m := by rw [← hm]; exact norm_le l hl
  have H1 := Lib.hid (fun p (h1 : (dig (val l)).length ≤ p + 1) (hp : p < l.length) h0 => norm_zero hl h1 hp h0)
  have H2 := Lib.hid (fun p (hp : p < l.length) h0 => norm_nz hl (p := p) hp h0)
  clear hm hb hc hl
  generalize (dig (val l)).length = d at *
  go_enter Tryz.func137, Tryz.ntmps137
  go_wp2_with fail
  go_loop [3] (fun i => ∃ p : Nat, d ≤ p ∧ p ≤ m ∧ i = .int .i64 p) (fun i => (intOf i).toNat)
  case atStart => exact ⟨m, hd, Nat.le_refl _, rfl⟩
  case round =>
    obtain ⟨p, hp1, hp2, rfl⟩ := hrel
    by_cases h0 : p = 0
    · subst h0
      have e0 : d = 0 := by omega
      go_wp2_with fail
      go_ret
      subst e0
      simp
    · obtain ⟨q, rfl⟩ : ∃ q, p = q + 1 := ⟨p - 1, by omega⟩
      have hcell : w.cell? ⟨b, o + q, none⟩ = some (.int .u64 ((l.getD q 0 : Nat) : Int)) := by
        rw [cell_of HB.out]; exact HC.out q (by rw [HM.out]; omega)
      have hz := H1.out q hp1 (by rw [HM.out]; omega)
      have hn := H2.out q (by rw [HM.out]; omega)
      have HZ := Lib.hid hz
      have HN := Lib.hid hn
      clear hz hn
      generalize l.getD q 0 = x at *
      have ei : ((q + 1 : Nat) : Int) - 1 = (q : Int) := by omega
      by_cases hx : x = 0
      · have h4 := HZ.out hx
        subst hx
        go_wp2_with fail
        exact ⟨⟨q, h4, by omega, rfl⟩, by simp [intOf]⟩
      · have h4 := HN.out hx
        have e4 : d = q + 1 := by omega
        have hx' : ((x : Int) == 0) = false := by simp; omega
        go_wp2_with fail
        go_ret
        exact ⟨rfl, rfl⟩
def Own (w : World) (b b' : Option Nat) : Prop := b' = b ∨ ∃ k, b' = some k ∧ w.heap.size ≤ k
def NatRes (w : World) (b : Option Nat) (n : Nat) (e : Ending) (w' : World) : Prop :=
  ∃ v' b', e = .returned v' ∧ NatAt w' v' n b' ∧ Kept (fun k => b = some k) w w' ∧ Own w b b'
theorem made_kept {w w1 : World} {b : Option Nat} {k : Nat} {cs : Array Value} (h : (b = some k ∧ w1 = w) ∨ (k = w.heap.size ∧ w1 = w.alloc (.cells cs 165))) : Kept (fun k => b = some k) w w1 ∧ Own w b (some k) ∧ (k < w.heap.size → b = some k) := by
  rcases h with ⟨h1, h2⟩ | ⟨h1, h2⟩
  · rw [h2]; exact ⟨Kept.refl _ _, Or.inl h1.symm, fun _ => h1⟩
  · rw [h2]; exact ⟨(Kept.refl _ _).alloc _, Or.inr ⟨k, rfl, by omega⟩, fun h => by omega⟩
theorem natRes_mk {w w1 w2 : World} {b : Option Nat} {k n : Nat} {cs : Array Value} {v : Value} (h : (b = some k ∧ w1 = w) ∨ (k = w.heap.size ∧ w1 = w.alloc (.cells cs 165)))
    (hk : Kept (fun i => i = k) w1 w2) (hv : NatAt w2 v n (some k)) : NatRes w b n (.returned v) w2 := by
  obtain ⟨h1, h2, h3⟩ := made_kept h
  exact ⟨v, some k, rfl, hv, h1.trans hk (fun _ _ h => h) (fun i hi h => h ▸ h3 (h ▸ hi)), h2⟩
theorem has_one {cs : Array Value} {x : Nat} (h : 0 < cs.size) : Has (cs.setIfInBounds 0 (.int .u64 (x : Int))) 0 [x] := by
  intro i hi
  simp at hi
  subst hi
  rw [Array.getElem?_setIfInBounds, if_pos rfl, if_pos (by simpa using h)]
  rfl
theorem nat_zero {w : World} {v : Value} {b : Option Nat} (h : BufAt w v b) : ∃ a c, v = .slice a (match v with | .slice _ l _ => l | _ => 0) c ∧ NatAt w (.slice a 0 c) 0 b := by
  cases b with
  | none => exact ⟨none, 0, by rw [h], rfl, rfl⟩
  | some k =>
    obtain ⟨l, cs, h1, h2, h3, h4, h5⟩ := h
    exact ⟨some ⟨k, 0, none⟩, cs.size, by rw [h1], cs, by rw [dig_zero]; rfl, h2, by rw [dig_zero]; exact Nat.zero_le _, h4, h5, by rw [dig_zero]; intro i hi; simp at hi⟩
theorem buf_slice {w : World} {v : Value} {b : Option Nat} (h : BufAt w v b) : ∃ a l c, v = .slice a l c ∧ NatAt w (.slice a 0 c) 0 b := by
  obtain ⟨a, c, h1, h2⟩ := nat_zero h
  exact ⟨a, _, c, h1, h2⟩
set_option maxHeartbeats 400000 in
theorem setWord_any (v : Value) (b : Option Nat) (x : Nat) (hx : x < B64) (w : World) (hv : BufAt w v b) :
    Calls Tryz.prog 179 #[v, .int .u64 x] w (NatRes w b x) := by
  by_cases h0 : x = 0
  · obtain ⟨a, l, c, rfl, h2⟩ := buf_slice hv
    subst h0
    have H2 := Lib.hid h2
    clear h2 hv
    go_enter Tryz.func179, Tryz.ntmps179
    go_wp2_with fail
    go_ret
    refine ⟨_, b, rfl, ?_, Kept.refl _ _, Or.inl rfl⟩
    simpa [sliced, Addr.add] using H2.out
  · have h0' : ((x : Int) == 0) = false := by simp; omega
    have HV := Lib.hid hv
    have HN := Lib.hid h0
    clear hv h0
    go_enter Tryz.func179, Tryz.ntmps179
    go_wp2_with fail
    refine (nat_make v b 1 _ HV.out (by omega) (by omega)).mono ?_
    rintro e w1 ⟨k, cs, rfl, hk, hn, hp, hs, hown⟩
    have c1 : w1.cell? ⟨k, 0, none⟩ = some (cs[0]) := by rw [cell_of hk]; exact Array.getElem?_eq_getElem hp
    have f1 := frozen_of hk 0
    have HK := Lib.hid hk
    have HO := Lib.hid hown
    clear hk hown
    go_wp2_with fail
    go_ret
    refine natRes_mk HO.out ((Kept.refl _ _).setCell _ _ (fun _ => rfl)) ?_
    have e1 := dig_one HN.out hx
    exact ⟨cs.setIfInBounds 0 (.int .u64 (x : Int)), by rw [e1]; simp, heap_set_same HK.out 0 _, by rw [e1]; simp; omega, by simpa using hp, by simpa using hs, by rw [e1]; exact has_one hp⟩
set_option maxHeartbeats 400000 in
theorem setUint64_any (v : Value) (b : Option Nat) (x : Nat) (hx : x < B64) (w : World) (hv : BufAt w v b) :
    Calls Tryz.prog 141 #[v, .int .u64 x] w (NatRes w b x) := by
  have HV := Lib.hid hv
  clear hv
  go_enter Tryz.func141, Tryz.ntmps141
  go_wp2_with (go_at_call 179; refine (setWord_any v b x hx _ HV.out).mono ?_; intro e w1 hr; have HR := Lib.hid hr; clear hr; obtain ⟨v', b', rfl, hr⟩ := HR.out; clear HR; have HR := Lib.hid hr; clear hr)
  go_ret
  exact ⟨_, b', rfl, HR.out⟩
end Go.Proofs.YtjebnpkebccffaaGreatDoor
namespace Go.Proofs.YtjebnpkebccffaaGreatDoor
open Go.RowKit
set_option maxHeartbeats 400000 in
theorem nat_make0 (a : Option Addr) (l c : Nat) (w : World) :
    Calls Tryz.prog 135 #[.slice a l c, .int .i64 0] w fun e w' => e = .returned (.slice a 0 c) ∧ w = w' := by
  go_enter Tryz.func135, Tryz.ntmps135
  go_wp2_with fail
  go_ret
  exact ⟨rfl, rfl⟩
def Sm (n : Nat) : Prop := (dig n).length ≤ 100000
theorem Sm.mono {a b : Nat} (h : Sm b) (hab : a ≤ b) : Sm a := Nat.le_trans (dig_len_mono hab) h
theorem Sm.of {n : Nat} (k : Nat) (h : n < B64 ^ k) (hk : k ≤ 100000) : Sm n := Nat.le_trans (dig_len_le h) hk
theorem Sm.one {n : Nat} (h : n < B64) : Sm n := Sm.of 1 (by rwa [Nat.pow_one]) (by omega)
theorem has_val {w : World} {v : Value} {n : Nat} {b : Option Nat} (h : NatAt w v n b) (h0 : n ≠ 0) : ∃ k cs, b = some k ∧ v = .slice (some ⟨k, 0, none⟩) (dig n).length cs.size ∧ w.heap[k]? = some (.cells cs 165 (0, 0)) ∧ (dig n).length ≤ cs.size ∧ 0 < cs.size ∧ cs.size ≤ 1000000 ∧ Has cs 0 (dig n) := by
  cases b with
  | none => exact absurd h.2 h0
  | some k => obtain ⟨cs, h1⟩ := h; exact ⟨k, cs, rfl, h1⟩
theorem zero_val {w : World} {v : Value} {b : Option Nat} (h : NatAt w v 0 b) : ∃ a c, v = .slice a 0 c := by
  cases b with
  | none => exact ⟨none, 0, h.1⟩
  | some k => obtain ⟨cs, h1, _⟩ := h; exact ⟨_, _, by rw [h1, dig_zero]; rfl⟩
theorem natAt_of {w : World} {k n : Nat} {cs : Array Value} {l : List Nat} (hb : w.heap[k]? = some (.cells cs 165 (0, 0))) (hl : ∀ x ∈ l, x < B64) (hv : val l = n) (hc : Has cs 0 l) (h1 : l.length ≤ cs.size) (h2 : 0 < cs.size) (h3 : cs.size ≤ 1000000) :
    NatAt w (.slice (some ⟨k, 0, none⟩) (dig n).length cs.size) n (some k) := by
  subst hv
  have hd := norm_le l hl
  refine ⟨cs, rfl, hb, by omega, h2, h3, fun i hi => ?_⟩
  rw [hc i (by omega), norm_has hl i hi]
set_option maxHeartbeats 800000 in
theorem set_any (z x : Value) (bz bx : Option Nat) (n : Nat) (w : World) (hz : BufAt w z bz) (hx : NatAt w x n bx) (hn : Sm n) :
    Calls Tryz.prog 134 #[z, x] w (NatRes w bz n) := by
  have hlen : (dig n).length ≤ 100000 := hn
  by_cases h0 : n = 0
  · subst h0
    obtain ⟨a, l, c, rfl, h2⟩ := buf_slice hz
    obtain ⟨a', c', rfl⟩ := zero_val hx
    have H2 := Lib.hid h2
    clear h2 hz hx hn hlen
    go_enter Tryz.func134, Tryz.ntmps134
    go_wp2_with fail
    refine (nat_make0 a l c _).mono ?_
    rintro e w' ⟨rfl, rfl⟩
    go_wp2_with (refine wpList_copy_nothing rfl (.tmp 9) (.tmp 10) 107 107 rfl 165 Tryz.underlying107 (by kernel_rfl) _ _ _ _ _ _ rfl rfl rfl ?_)
    go_ret
    exact ⟨_, bz, rfl, H2.out, Kept.refl _ _, Or.inl rfl⟩
  · obtain ⟨kx, cx, rfl, rfl, hk, hl, hp, hs, hh⟩ := has_val hx h0
    have hpos := dig_len_pos h0
    have hdl := dig_lt n
    have HZ := Lib.hid hz
    have HK := Lib.hid hk
    have HH := Lib.hid hh
    have HDL := Lib.hid hdl
    clear hz hk hh hx hn hdl
    obtain ⟨ds, hds⟩ : ∃ ds, ds = dig n := ⟨_, rfl⟩
    have HDS := Lib.hid hds
    rw [← hds] at hpos hlen hl
    have HH2 : Hid (Has cx 0 ds) := by rw [hds]; exact HH
    have HDL2 : Hid (∀ x ∈ ds, x < B64) := by rw [hds]; exact HDL
    rw [← hds]
    clear hds HH HDL
    go_enter Tryz.func134, Tryz.ntmps134
    go_wp2_with fail
    refine (nat_make z bz ds.length _ HZ.out (by omega) (by omega)).mono ?_
    rintro e w1 ⟨k, cs, rfl, hk, hn, hp', hs', hown⟩
    have hx1 := (made_kept hown).1
    have hk1 : w1.heap[kx]? = some (.cells cx 165 (0, 0)) := by
      rcases hown with ⟨_, h2⟩ | ⟨h1, h2⟩
      · rw [h2]; exact HK.out
      · rw [h2]; exact (Below.heap_alloc _ _ _ (heap_lt HK.out)).trans HK.out
    have HO := Lib.hid hown
    have HK1 := Lib.hid hk1
    have HKK := Lib.hid hk
    clear hown hx1 hk1 hk
    go_wp2_with (refine wpList_copy_words rfl (.tmp 9) (.tmp 10) 107 107 rfl Tryz.underlying107 k 0 ds.length cs.size kx 0 ds.length cx.size rfl rfl cs 165 HKK.out cx 165 (0, 0) HK1.out ds (by simp) HH2.out (by omega) ?_)
    go_ret
    have hv : val ds = n := by rw [HDS.out, val_dig]
    refine natRes_mk HO.out (putWords_kept (Kept.refl _ _) k 0 ds (fun _ => rfl)) ?_
    have := natAt_of (w := putWords w1 k 0 ds) (putWords_block HKK.out 0 ds) HDL2.out hv (putC_has _ _ _ (by omega)) (by rw [putC_size]; omega) (by rw [putC_size]; omega) (by rw [putC_size]; omega)
    rw [putC_size, ← HDS.out] at this
    exact this
set_option maxHeartbeats 400000 in
theorem low64_any (v : Value) (b : Option Nat) (n : Nat) (w : World) (hv : NatAt w v n b) :
    Calls Tryz.prog 140 #[v] w fun e w' => e = .returned (.int .u64 ((n % B64 : Nat) : Int)) ∧ w = w' := by
  by_cases h0 : n = 0
  · subst h0
    obtain ⟨a', c', rfl⟩ := zero_val hv
    clear hv
    go_enter Tryz.func140, Tryz.ntmps140
    go_wp2_with fail
    go_ret
    exact ⟨rfl, rfl⟩
  · obtain ⟨kx, cx, rfl, rfl, hk, hl, hp, hs, hh⟩ := has_val hv h0
    have hpos := dig_len_pos h0
    have c1 : w.cell? ⟨kx, 0, none⟩ = some (.int .u64 ((n % B64 : Nat) : Int)) := by
      rw [cell_of hk]
      have := hh 0 hpos
      rwa [dig_low] at this
    have a1 : (((dig n).length : Int) == 0) = false := beqF (by omega)
    clear hk hh hv
    generalize n % B64 = x at *
    generalize (dig n).length = m at *
    go_enter Tryz.func140, Tryz.ntmps140
    go_wp2_with fail
    go_ret
    exact ⟨rfl, rfl⟩
end Go.Proofs.YtjebnpkebccffaaGreatDoor
namespace Go.Proofs.YtjebnpkebccffaaGreatDoor
open Go.RowKit
def Drew (w w' : World) : Prop := ∃ n, w' = w.drewN n
theorem Drew.refl (w : World) : Drew w w := ⟨0, rfl⟩
theorem Drew.step {w w' : World} (h : Drew w w') (n : Nat) : Drew w (w'.drewN n) := by obtain ⟨m, rfl⟩ := h; exact ⟨m + n, World.drewN_drewN ..⟩
theorem Drew.trans {a b c : World} (h : Drew a b) (k : Drew b c) : Drew a c := by obtain ⟨n, rfl⟩ := k; exact h.step n
theorem Drew.heap {w w' : World} (h : Drew w w') : w'.heap = w.heap := by obtain ⟨n, rfl⟩ := h; rfl
theorem Drew.kept {S : Nat → Prop} {w w' : World} (h : Drew w w') : Kept S w w' := by obtain ⟨n, rfl⟩ := h; exact (Kept.refl _ _).drewN n
theorem ptr_word_same (a : Addr) (w : World) : (binOp .eql 261 (.pointer (some a)) (.pointer (some a))).run Tryz.prog w = .ok (.bool true) w := by
  obtain ⟨i0, hi, hz0, hz1, hz2⟩ := info_parts Tryz.info165
  exact run_eql_ptr_same w a Tryz.underlying261 hi
theorem ptr_word_other {w : World} {a b : Addr} {ca cb : Array Value} {ta tb : TypeId} (hne : a ≠ b) (ha : w.heap[a.block]? = some (.cells ca ta (0, 0))) (hb : w.heap[b.block]? = some (.cells cb tb (0, 0))) (n : Nat) :
    (binOp .eql 261 (.pointer (some a)) (.pointer (some b))).run Tryz.prog (w.drewN n) = .ok (.bool false) (w.drewN n) := by
  obtain ⟨i0, hi, hz0, hz1, hz2⟩ := info_parts Tryz.info165
  exact run_eql_ptr_other (w.drewN n) Tryz.underlying261 hi (by omega) hne ha hb
def aliasB (a b : Option Nat) : Bool := a.isSome && a == b
set_option maxHeartbeats 800000 in
theorem alias_any (z x : Value) (bz bx : Option Nat) (w : World) (hz : BufAt w z bz) (hx : BufAt w x bx) :
    Calls Tryz.prog 133 #[z, x] w fun e w' => e = .returned (.bool (aliasB bz bx)) ∧ Drew w w' := by
  cases bz with
  | none =>
    obtain rfl := hz
    obtain ⟨a, l, c, rfl, _⟩ := buf_slice hx
    clear hx
    have g1 : decide (0 < ((0 : Nat) : Int)) = false := by decide
    go_enter Tryz.func133, Tryz.ntmps133
    go_wp2_with fail
    go_quiet (fail)
    go_wp2_with fail
    go_ret
    exact ⟨rfl, _, rfl⟩
  | some k =>
    obtain ⟨l, cs, rfl, hk, hl, hp, hs⟩ := hz
    have g1 : decide (0 < ((cs.size : Nat) : Int)) = true := decT (by omega)
    cases bx with
    | none =>
      obtain rfl := hx
      clear hk
      go_enter Tryz.func133, Tryz.ntmps133
      go_wp2_with fail
      go_quiet (fail)
      go_wp2_with fail
      go_ret
      exact ⟨rfl, _, rfl⟩
    | some k2 =>
      obtain ⟨l2, cs2, rfl, hk2, hl2, hp2, hs2⟩ := hx
      have g2 : decide (0 < ((cs2.size : Nat) : Int)) = true := decT (by omega)
      by_cases he : k = k2
      · subst he
        have e2 : cs2.size = cs.size := by rw [hk] at hk2; injection hk2 with a; injection a with a; rw [a]
        rw [e2] at g2 ⊢
        clear hk hk2
        have hq := fun (d : Nat) (w : World) => ptr_word_same ⟨k, d, none⟩ w
        obtain ⟨d, hd⟩ : ∃ d, cs.size = d + 1 := ⟨cs.size - 1, by omega⟩
        have hdb : d ≤ 1000000 := by omega
        rw [hd] at g1 g2 ⊢
        clear hd e2 hl hl2 hp hp2 hs hs2
        have e3 : IntKind.i64.wrap (d : Int) = d := IntWalk.i64_in _ (by omega)
        have e4 : (d : Int) < (d : Int) + 1 := by omega
        have e5 : (0 : Int) ≤ (d : Int) := by omega
        go_enter Tryz.func133, Tryz.ntmps133
        go_wp2_with fail
        go_quiet (fail)
        go_wp2_with fail
        go_ret
        exact ⟨by simp [aliasB], _, rfl⟩
      · have hq := fun (d d2 : Nat) (n : Nat) => ptr_word_other (w := w) (a := ⟨k, d, none⟩) (b := ⟨k2, d2, none⟩) (by intro h; injection h with h; exact he h) hk hk2 n
        clear hk hk2
        obtain ⟨d, hd⟩ : ∃ d, cs.size = d + 1 := ⟨cs.size - 1, by omega⟩
        obtain ⟨d2, hd2⟩ : ∃ d, cs2.size = d + 1 := ⟨cs2.size - 1, by omega⟩
        have hdb : d ≤ 1000000 := by omega
        have hdb2 : d2 ≤ 1000000 := by omega
        rw [hd] at g1 ⊢
        rw [hd2] at g2 ⊢
        clear hd hd2 hl hl2 hp hp2 hs hs2
        have e3 : IntKind.i64.wrap (d : Int) = d := IntWalk.i64_in _ (by omega)
        have e4 : (d : Int) < (d : Int) + 1 := by omega
        have e5 : (0 : Int) ≤ (d : Int) := by omega
        have f3 : IntKind.i64.wrap (d2 : Int) = d2 := IntWalk.i64_in _ (by omega)
        have f4 : (d2 : Int) < (d2 : Int) + 1 := by omega
        have f5 : (0 : Int) ≤ (d2 : Int) := by omega
        go_enter Tryz.func133, Tryz.ntmps133
        go_wp2_with fail
        go_quiet (fail)
        go_wp2_with fail
        go_ret
        exact ⟨by simp [aliasB, he], _, rfl⟩
end Go.Proofs.YtjebnpkebccffaaGreatDoor
namespace Go.Proofs.YtjebnpkebccffaaGreatDoor
open Go.RowKit
set_option maxHeartbeats 1000000 in
theorem cmp_len (x y : Value) (bx by_ : Option Nat) (n m : Nat) (w : World) (hx : NatAt w x n bx) (hy : NatAt w y m by_) (hl : (dig n).length ≠ (dig m).length) :
    Calls Tryz.prog 142 #[x, y] w fun e w' => e = .returned (.int .i64 (cmpN n m)) ∧ Drew w w' := by
  obtain ⟨a, l, c, rfl, hx2⟩ : ∃ a l c, x = .slice a l c ∧ l = (dig n).length := by
    cases bx with
    | none => exact ⟨none, 0, 0, hx.1, by rw [hx.2, dig_zero]; rfl⟩
    | some k => obtain ⟨cs, h, _⟩ := hx; exact ⟨_, _, _, h, rfl⟩
  obtain ⟨a2, l2, c2, rfl, hy2⟩ : ∃ a l c, y = .slice a l c ∧ l = (dig m).length := by
    cases by_ with
    | none => exact ⟨none, 0, 0, hy.1, by rw [hy.2, dig_zero]; rfl⟩
    | some k => obtain ⟨cs, h, _⟩ := hy; exact ⟨_, _, _, h, rfl⟩
  rw [← hx2, ← hy2] at hl
  have HX := Lib.hid hx2
  have HY := Lib.hid hy2
  clear hx hy hx2 hy2
  have a1 : (!((l : Int) == (l2 : Int))) = true := by rw [beqF (by omega)]; rfl
  have a2 : ((l : Int) != (l2 : Int)) = true := by rw [bne, beqF (by omega)]; rfl
  by_cases h : l < l2
  · have e := cmpN_len_lt (n := n) (m := m) (by rw [← HX.out, ← HY.out]; exact h)
    rw [e]
    go_enter Tryz.func142, Tryz.ntmps142
    go_wp2_with fail
    go_ret
    exact ⟨rfl, 0, rfl⟩
  · have e := cmpN_len_gt (n := n) (m := m) (by rw [← HX.out, ← HY.out]; omega)
    rw [e]
    have h2 : l2 < l := by omega
    go_enter Tryz.func142, Tryz.ntmps142
    go_wp2_with fail
    go_ret
    exact ⟨rfl, 0, rfl⟩
set_option maxHeartbeats 2000000 in
theorem cmp_same (kx ky cx cy L : Nat) (xs ys : List Nat) (r : Int) (w : World) (hL : 0 < L) (hL1 : L ≤ 1000000) (hlx : xs.length = L) (hly : ys.length = L)
    (hx : ∀ p, p < L → w.cell? ⟨kx, p, none⟩ = some (.int .u64 ((xs.getD p 0 : Nat) : Int))) (hy : ∀ p, p < L → w.cell? ⟨ky, p, none⟩ = some (.int .u64 ((ys.getD p 0 : Nat) : Int)))
    (r1 : ∀ p, p < L → xs.drop (p + 1) = ys.drop (p + 1) → xs.getD p 0 < ys.getD p 0 → r = -1)
    (r2 : ∀ p, p < L → xs.drop (p + 1) = ys.drop (p + 1) → ys.getD p 0 < xs.getD p 0 → r = 1)
    (r3 : xs = ys → r = 0) :
    Calls Tryz.prog 142 #[.slice (some ⟨kx, 0, none⟩) L cx, .slice (some ⟨ky, 0, none⟩) L cy] w fun e w' => e = .returned (.int .i64 r) ∧ Drew w w' := by
  have HX := Lib.hid hx
  have HY := Lib.hid hy
  have R1 := Lib.hid r1
  have R2 := Lib.hid r2
  have R3 := Lib.hid r3
  have LX := Lib.hid hlx
  have LY := Lib.hid hly
  clear hx hy r1 r2 r3 hlx hly
  obtain ⟨M, rfl⟩ : ∃ M, L = M + 1 := ⟨L - 1, by omega⟩
  have a1 : ((M : Int) + 1 == 0) = false := beqF (by omega)
  go_enter Tryz.func142, Tryz.ntmps142
  go_wp2_with fail
  go_loopw [7] (fun i wr => ∃ p : Nat, p < M + 1 ∧ i = .int .i64 p ∧ Hid (xs.drop (p + 1) = ys.drop (p + 1)) ∧ Drew w wr) (fun i _ => (intOf i).toNat)
  case atStart =>
    refine ⟨M, by omega, ?_, ?_, Drew.refl w⟩
    · simp
    · exact (show xs.drop (M + 1) = ys.drop (M + 1) by rw [List.drop_eq_nil_of_le (by rw [LX.out]; exact Nat.le_refl _), List.drop_eq_nil_of_le (by rw [LY.out]; exact Nat.le_refl _)])
  case round =>
    obtain ⟨p, hp, rfl, HD, nq, rfl⟩ := hrel
    have cx1 := HX.out p hp
    have cy1 := HY.out p hp
    have e0 : (0 : Int) ≤ (p : Int) := by omega
    have e1 : (p : Int) < (M : Int) + 1 := by omega
    have R1p := Lib.hid (R1.out p hp HD.out)
    have R2p := Lib.hid (R2.out p hp HD.out)
    have HE : Hid (xs.getD p 0 = ys.getD p 0 → xs.drop p = ys.drop p) := by
      intro h
      rw [drop_getD (l := xs) (by rw [LX.out]; exact hp), drop_getD (l := ys) (by rw [LY.out]; exact hp), h, HD.out]
    generalize xs.getD p 0 = x at *
    generalize ys.getD p 0 = y at *
    by_cases hxy : x = y
    · subst hxy
      by_cases hp0 : p = 0
      · subst hp0
        have er : r = 0 := R3.out (by have := HE.out rfl; simpa using this)
        subst er
        go_wp2_with fail
        go_quiet (fail)
        go_wp2_with fail
        go_quiet (fail)
        go_wp2_with fail
        go_quiet (fail)
        go_wp2_with fail
        go_ret
        exact ⟨rfl, by repeat (first | exact Drew.refl _ | refine Drew.step ?_ _)⟩
      · obtain ⟨q, rfl⟩ : ∃ q, p = q + 1 := ⟨p - 1, by omega⟩
        have g1 : decide ((0 : Int) < (q : Int) + 1) = true := decT (by omega)
        have HE2 : Hid (xs.drop (q + 1) = ys.drop (q + 1)) := HE.out rfl
        go_wp2_with fail
        go_quiet (fail)
        go_wp2_with fail
        go_roundw
        case rel => exact ⟨q, by omega, by go_num, HE2, (by repeat (first | exact Drew.refl _ | refine Drew.step ?_ _))⟩
        case measure => simp [intOf]
    · have hb : ((x : Int) == (y : Int)) = false := beqF (by omega)
      by_cases hlt : x < y
      · have er : r = -1 := R1p.out hlt
        subst er
        have l1 : decide ((x : Int) < (y : Int)) = true := decT (by omega)
        by_cases hp0 : p = 0
        · subst hp0
          go_wp2_with fail
          go_quiet (fail)
          go_wp2_with fail
          go_quiet (fail)
          go_wp2_with fail
          go_ret
          exact ⟨rfl, by repeat (first | exact Drew.refl _ | refine Drew.step ?_ _)⟩
        · obtain ⟨q, rfl⟩ : ∃ q, p = q + 1 := ⟨p - 1, by omega⟩
          have g1 : decide ((0 : Int) < (q : Int) + 1) = true := decT (by omega)
          go_wp2_with fail
          go_quiet (fail)
          go_wp2_with fail
          go_quiet (fail)
          go_wp2_with fail
          go_ret
          exact ⟨rfl, by repeat (first | exact Drew.refl _ | refine Drew.step ?_ _)⟩
      · have er : r = 1 := R2p.out (by omega)
        subst er
        have l1 : decide ((x : Int) < (y : Int)) = false := decF (by omega)
        have l2 : decide ((y : Int) < (x : Int)) = true := decT (by omega)
        by_cases hp0 : p = 0
        · subst hp0
          go_wp2_with fail
          go_quiet (fail)
          go_wp2_with fail
          go_quiet (fail)
          go_wp2_with fail
          go_quiet (fail)
          go_wp2_with fail
          go_ret
          exact ⟨rfl, by repeat (first | exact Drew.refl _ | refine Drew.step ?_ _)⟩
        · obtain ⟨q, rfl⟩ : ∃ q, p = q + 1 := ⟨p - 1, by omega⟩
          have g1 : decide ((0 : Int) < (q : Int) + 1) = true := decT (by omega)
          go_wp2_with fail
          go_quiet (fail)
          go_wp2_with fail
          go_quiet (fail)
          go_wp2_with fail
          go_quiet (fail)
          go_wp2_with fail
          go_ret
          exact ⟨rfl, by repeat (first | exact Drew.refl _ | refine Drew.step ?_ _)⟩
theorem cmp_any (x y : Value) (bx by_ : Option Nat) (n m : Nat) (w : World) (hx : NatAt w x n bx) (hy : NatAt w y m by_) :
    Calls Tryz.prog 142 #[x, y] w fun e w' => e = .returned (.int .i64 (cmpN n m)) ∧ Drew w w' := by
  by_cases hl : (dig n).length = (dig m).length
  · by_cases h0 : n = 0
    · subst h0
      have hm : m = 0 := by
        rw [dig_zero] at hl
        exact dig_eq_nil.1 (List.length_eq_zero_iff.1 hl.symm)
      subst hm
      obtain ⟨a, c, rfl⟩ := zero_val hx
      obtain ⟨a2, c2, rfl⟩ := zero_val hy
      clear hx hy hl
      go_enter Tryz.func142, Tryz.ntmps142
      go_wp2_with fail
      go_ret
      exact ⟨rfl, 0, rfl⟩
    · have hp := dig_len_pos h0
      have hm0 : m ≠ 0 := by intro h; subst h; rw [dig_zero, List.length_nil] at hl; omega
      obtain ⟨kx, cx, rfl, rfl, hk, hl1, hp1, hs, hh⟩ := has_val hx h0
      obtain ⟨ky, cy, rfl, rfl, hk2, hl2, hp2, hs2, hh2⟩ := has_val hy hm0
      rw [← hl]
      refine cmp_same kx ky cx.size cy.size (dig n).length (dig n) (dig m) (cmpN n m) w hp (by omega) rfl hl.symm ?_ ?_ ?_ ?_ ?_
      · intro p hp'
        rw [cell_of hk]
        have := hh p hp'
        rwa [Nat.zero_add] at this
      · intro p hp'
        rw [cell_of hk2]
        have := hh2 p (by omega)
        rwa [Nat.zero_add] at this
      · intro p hp' hd h
        exact cmpN_lt (dig_less hl hp' hd h)
      · intro p hp' hd h
        exact cmpN_gt (dig_less hl.symm (by omega) hd.symm h)
      · intro h
        exact cmpN_eq (dig_same h)
  · exact cmp_len x y bx by_ n m w hx hy hl
end Go.Proofs.YtjebnpkebccffaaGreatDoor
