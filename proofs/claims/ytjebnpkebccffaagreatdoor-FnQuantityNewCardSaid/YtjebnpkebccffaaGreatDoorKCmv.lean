import Derived.Test.YtjebnpkebccffaaGreatDoorKLgr
import Derived.Test.YtjebnpkebccffaaGreatDoorKDint
import Derived.Test.YtjebnpkebccffaaGreatDoorKQcn
import Derived.Test.YtjebnpkebccffaaGreatDoorKItn
import Derived.Test.YtjebnpkebccffaaGreatDoorKQin
set_option linter.unusedSimpArgs false
set_option linter.unusedVariables false
set_option linter.unusedSectionVars false
namespace Go.Proofs.YtjebnpkebccffaaGreatDoor
def vA (A : List Nat) : Nat → Nat → Nat
  | 0, _ => 0
  | n + 1, i => A.getD i 0 * 10 ^ n + vA A n (i + 1)
theorem getD_le9 {A : List Nat} (h : ∀ x ∈ A, x ≤ 9) (i : Nat) : A.getD i 0 ≤ 9 := by
  rw [List.getD_eq_getElem?_getD]
  cases e : A[i]? with
  | none => simp
  | some x => exact h x (List.mem_of_getElem? e)
theorem vA_lt {A : List Nat} (h : ∀ x ∈ A, x ≤ 9) : ∀ n i, vA A n i < 10 ^ n := by
  intro n
  induction n with
  | zero => intro i; simp [vA]
  | succ n ih =>
    intro i
    have h1 := ih (i + 1)
    have h2 : A.getD i 0 * 10 ^ n ≤ 9 * 10 ^ n := Nat.mul_le_mul_right _ (getD_le9 h i)
    unfold vA
    rw [Nat.pow_succ]
    omega
theorem lexc_vA {A B : List Nat} (hA : ∀ x ∈ A, x ≤ 9) (hB : ∀ x ∈ B, x ≤ 9) : ∀ n i, lexc A B n i = cmpN (vA A n i) (vA B n i) := by
  intro n
  induction n with
  | zero => intro i; rfl
  | succ n ih =>
    intro i
    have a1 := vA_lt hA n (i + 1)
    have b1 := vA_lt hB n (i + 1)
    unfold lexc
    simp only [vA]
    split
    · rename_i he
      rw [ih (i + 1), he]
      unfold cmpN
      generalize B.getD i 0 * 10 ^ n = c
      split
      · rw [if_pos (by omega)]
      · split
        · rw [if_neg (by omega), if_pos (by omega)]
        · rw [if_neg (by omega), if_neg (by omega)]
    · split
      · rename_i hlt
        have : (A.getD i 0 + 1) * 10 ^ n ≤ B.getD i 0 * 10 ^ n := Nat.mul_le_mul_right _ (by omega)
        rw [Nat.add_mul, Nat.one_mul] at this
        exact (cmpN_lt (by omega)).symm
      · rename_i hne hlt
        have : (B.getD i 0 + 1) * 10 ^ n ≤ A.getD i 0 * 10 ^ n := Nat.mul_le_mul_right _ (by omega)
        rw [Nat.add_mul, Nat.one_mul] at this
        exact (cmpN_gt (by omega)).symm
theorem vA_tail (x : Nat) (l : List Nat) : ∀ n i, vA (x :: l) n (i + 1) = vA l n i := by
  intro n
  induction n with
  | zero => intro i; rfl
  | succ n ih => intro i; simp only [vA]; rw [ih (i + 1)]; rfl
theorem vA_nil : ∀ n i, vA [] n i = 0 := by
  intro n
  induction n with
  | zero => intro i; rfl
  | succ n ih => intro i; simp only [vA]; rw [ih]; simp
theorem vA_pad : ∀ (l : List Nat) (p : Nat), vA l (l.length + p) 0 = dv l * 10 ^ p := by
  intro l
  induction l with
  | nil => intro p; rw [vA_nil]; simp [dv]
  | cons x l ih =>
    intro p
    rw [List.length_cons, show l.length + 1 + p = (l.length + p) + 1 by omega]
    simp only [vA]
    rw [vA_tail, ih p]
    simp only [dv]
    rw [Nat.add_mul, Nat.pow_add, ← Nat.mul_assoc]
    rfl
theorem cmpN_mul {a b c : Nat} (h : 0 < c) : cmpN (a * c) (b * c) = cmpN a b := by
  rcases Nat.lt_trichotomy a b with h1 | h1 | h1
  · rw [cmpN_lt h1, cmpN_lt (Nat.mul_lt_mul_of_pos_right h1 h)]
  · rw [h1, cmpN_eq rfl, cmpN_eq rfl]
  · rw [cmpN_gt h1, cmpN_gt (Nat.mul_lt_mul_of_pos_right h1 h)]
def Lead (l : List Nat) : Prop := (∀ x ∈ l, x ≤ 9) ∧ 0 < l.length ∧ l.getD 0 0 ≠ 0
theorem Lead.le {l : List Nat} (h : Lead l) : 10 ^ (l.length - 1) ≤ dv l := by
  have h1 := dv_head l h.2.1
  have h2 : 1 * 10 ^ (l.length - 1) ≤ l.getD 0 0 * 10 ^ (l.length - 1) := Nat.mul_le_mul_right _ (Nat.pos_of_ne_zero h.2.2)
  omega
theorem top_lt {A B : List Nat} (hA : Lead A) (hB : Lead B) {a b : Nat} (h : A.length + a < B.length + b) : dv A * 10 ^ a < dv B * 10 ^ b := by
  have h1 : dv A * 10 ^ a < 10 ^ A.length * 10 ^ a := Nat.mul_lt_mul_of_pos_right (dv_lt A hA.1) (Nat.pow_pos (by omega))
  have h2 : 10 ^ (B.length - 1) * 10 ^ b ≤ dv B * 10 ^ b := Nat.mul_le_mul_right _ hB.le
  rw [← Nat.pow_add] at h1 h2
  have h3 : 10 ^ (A.length + a) ≤ 10 ^ (B.length - 1 + b) := Nat.pow_le_pow_right (by omega) (by have := hB.2.1; omega)
  omega
theorem lgr_num {d f : Dm} (hd : Lead d.ds) (hf : Lead f.ds) (a b : Nat) (K : Int) (ha : d.e + K = (a : Int)) (hb : f.e + K = (b : Int)) : lgr d f = cmpN (dv d.ds * 10 ^ a) (dv f.ds * 10 ^ b) := by
  unfold lgr
  split
  · exact (cmpN_lt (top_lt hd hf (by omega))).symm
  · split
    · exact (cmpN_gt (top_lt hf hd (by omega))).symm
    · rw [lexc_vA hd.1 hf.1]
      generalize hm : max d.ds.length f.ds.length = m
      have hm1 : d.ds.length ≤ m := by omega
      have hm2 : f.ds.length ≤ m := by omega
      have e1 := vA_pad d.ds (m - d.ds.length)
      have e2 := vA_pad f.ds (m - f.ds.length)
      rw [show d.ds.length + (m - d.ds.length) = m by omega] at e1
      rw [show f.ds.length + (m - f.ds.length) = m by omega] at e2
      rw [e1, e2]
      obtain ⟨c, hc⟩ : ∃ c, d.ds.length + a = m + c := ⟨d.ds.length + a - m, by omega⟩
      rw [show a = (m - d.ds.length) + c by omega, show b = (m - f.ds.length) + c by omega, Nat.pow_add, Nat.pow_add, ← Nat.mul_assoc, ← Nat.mul_assoc, cmpN_mul (Nat.pow_pos (by omega))]
end Go.Proofs.YtjebnpkebccffaaGreatDoor
namespace Go.Proofs.YtjebnpkebccffaaGreatDoor
open Go.RowKit
theorem decDigits_dgs (n : Nat) (h : n ≠ 0) : Lib.decDigits n = (dgs n).map ch := by
  induction n using Nat.strongRecOn with
  | _ n ih =>
    by_cases hs : n < 10
    · rw [Lib.decDigits, dif_pos hs, dgs_digit h (by omega)]
      rfl
    · rw [Lib.decDigits, dif_neg hs, ih (n / 10) (by omega) (by omega), dgs_pos h, List.map_append]
      rfl
theorem decs_dgs (n : Nat) (h : n ≠ 0) : decs n = (dgs n).map (fun x => 48 + x) := by
  induction n using Nat.strongRecOn with
  | _ n ih =>
    by_cases hs : n < 10
    · rw [decs_small hs, dgs_digit h (by omega)]
      rfl
    · rw [decs_big (by omega), ih (n / 10) (by omega) (by omega), dgs_pos h, List.map_append]
      rfl
theorem itoaB_pos (n : Nat) (h : n ≠ 0) : itoaB ((n : Nat) : Int) = txtL false (dgs n) := by
  unfold itoaB Lib.itoa txtL
  rw [if_neg (by omega), Int.toNat_natCast, decDigits_dgs n h]
  simp
theorem itoaB_neg (n : Nat) (h : n ≠ 0) : itoaB (-((n : Nat) : Int)) = txtL true (dgs n) := by
  unfold itoaB Lib.itoa txtL
  rw [if_pos (by omega), Int.natAbs_neg, Int.natAbs_natCast, decDigits_dgs n h]
  simp
theorem ch_toNat {x : Nat} (h : x ≤ 9) : (ch x).toNat = 48 + x := by
  unfold ch
  simp
  omega
theorem txt_bytes_pos (n : Nat) (h : n ≠ 0) : (decs n).length = (txtL false (dgs n)).size ∧ ∀ j (hj : j < (txtL false (dgs n)).size), (decs n).getD j 0 = (txtL false (dgs n))[j].toNat := by
  have hs : (txtL false (dgs n)).size = (dgs n).length := by
    unfold txtL
    show (([] : List UInt8) ++ (dgs n).map ch).toArray.size = _
    simp
  refine ⟨by rw [hs, decs_dgs n h, List.length_map], fun j hj => ?_⟩
  have hj' : j < (dgs n).length := by omega
  have e : (txtL false (dgs n))[j] = ch ((dgs n)[j]) := by
    show (([] : List UInt8) ++ (dgs n).map ch).toArray[j]'_ = _
    simp
  rw [e, ch_toNat (dgs_dig n _ (List.getElem_mem hj')), decs_dgs n h]
  simp [List.getD, hj']
theorem txt_bytes_neg (n : Nat) (h : n ≠ 0) : (45 :: decs n).length = (txtL true (dgs n)).size ∧ ∀ j (hj : j < (txtL true (dgs n)).size), (45 :: decs n).getD j 0 = (txtL true (dgs n))[j].toNat := by
  have hs : (txtL true (dgs n)).size = (dgs n).length + 1 := by
    unfold txtL
    show (([45] : List UInt8) ++ (dgs n).map ch).toArray.size = _
    simp
  refine ⟨by rw [hs, List.length_cons, decs_dgs n h, List.length_map], fun j hj => ?_⟩
  cases j with
  | zero => rfl
  | succ j =>
    have hj' : j < (dgs n).length := by omega
    have e : (txtL true (dgs n))[j + 1] = ch ((dgs n)[j]) := by
      show (([45] : List UInt8) ++ (dgs n).map ch).toArray[j + 1]'(by simp; exact hj') = _
      simp
    rw [e, ch_toNat (dgs_dig n _ (List.getElem_mem hj')), decs_dgs n h]
    simp [List.getD, hj']
end Go.Proofs.YtjebnpkebccffaaGreatDoor
namespace Go.Proofs.YtjebnpkebccffaaGreatDoor
theorem lead_dgs' {M : Nat} (h : M ≠ 0) : Lead (dgs M) := by
  have hl : 0 < (dgs M).length := List.length_pos_iff.2 (dgs_ne h)
  refine ⟨dgs_dig M, hl, ?_⟩
  have := lead_stop (dgs M) (by rw [lead_dgs]; exact hl)
  rw [lead_dgs] at this
  exact this
theorem sgnD_pos {l : List Nat} (e : Int) (h : 0 < l.length) : sgnD ⟨false, l, e⟩ = 1 := by
  unfold sgnD
  rw [if_neg (by simp; intro h'; rw [h'] at h; simp at h)]
  rfl
theorem cmpD_num {M N : Nat} (E : Int) (hM : M ≠ 0) (hN : N ≠ 0) (a b : Nat) (K : Int) (ha : E + K = (a : Int)) (hb : K = (b : Int)) : cmpD ⟨false, dgs M, E⟩ ⟨false, dgs N, 0⟩ = cmpN (M * 10 ^ a) (N * 10 ^ b) := by
  have h1 := sgnD_pos E (lead_dgs' hM).2.1
  have h2 := sgnD_pos 0 (lead_dgs' hN).2.1
  unfold cmpD
  rw [h1, h2, if_pos rfl, if_neg (by omega), if_pos (by omega)]
  have := lgr_num (d := ⟨false, dgs M, E⟩) (f := ⟨false, dgs N, 0⟩) (lead_dgs' hM) (lead_dgs' hN) a b K ha (by show (0 : Int) + K = _; omega)
  simp only [dv_dgs] at this
  exact this
theorem maxD_eq : maxD = ⟨false, dgs 9223372036854775807, 0⟩ := nd_prim false 9223372036854775807 0 (by decide)
theorem d1024_eq : d1024 = ⟨false, dgs 1024, 0⟩ := nd_prim false 1024 0 (by decide)
theorem cmpN_le {a b : Nat} : cmpN a b ≤ 0 ↔ a ≤ b := by
  unfold cmpN
  split
  · omega
  · split <;> omega
theorem cmpN_ge {a b : Nat} : 0 ≤ cmpN a b ↔ b ≤ a := by
  unfold cmpN
  split
  · omega
  · split <;> omega
theorem may_num {neg : Bool} {M : Nat} {E : Int} (hM : M ≠ 0) (h : mayD ⟨neg, dgs M, E⟩ maxD = true) : -3 ≤ E ∧ M * 10 ^ (E + 3).toNat ≤ 9223372036854775807 * 1000 := by
  unfold mayD at h
  rw [Bool.and_eq_true, Bool.or_eq_true, decide_eq_true_eq, decide_eq_true_eq, decide_eq_true_eq] at h
  obtain ⟨h1, h2⟩ := h
  have h3 : -3 ≤ E := by
    rcases h1 with h1 | h1
    · have := (lead_dgs' hM).2.1
      have h1 : (dgs M).length = 0 := h1
      omega
    · exact h1
  refine ⟨h3, ?_⟩
  rw [maxD_eq, cmpD_num E hM (by omega) (E + 3).toNat 3 3 (by omega) rfl] at h2
  exact cmpN_le.1 h2
theorem cmp1024_num {M : Nat} {E : Int} (hM : M ≠ 0) (hE : 0 ≤ E) (h : 0 ≤ cmpD ⟨false, dgs M, E⟩ d1024) : 1024 ≤ M * 10 ^ E.toNat := by
  rw [d1024_eq, cmpD_num E hM (by omega) E.toNat 0 0 (by omega) rfl] at h
  have := cmpN_ge.1 h
  omega
theorem dgs_zs (M r : Nat) (hM : M ≠ 0) : dgs (M * 10 ^ r) = dgs M ++ zs r := by
  have h := dgs_app (zs r) (fun x hx => by unfold zs at hx; rw [List.mem_replicate] at hx; omega) M hM
  unfold zs at h ⊢
  rw [List.length_replicate, dv_zs, Nat.add_zero] at h
  exact h
theorem txtD_num (neg : Bool) (M : Nat) (r : Nat) (hM : M ≠ 0) : txtD ⟨neg, dgs M, (r : Int)⟩ = txtL neg (dgs (M * 10 ^ r)) := by
  unfold txtD
  have hne : (⟨neg, dgs M, (r : Int)⟩ : Dm).ds ≠ [] := dgs_ne hM
  rw [if_neg hne]
  unfold wideL
  rw [if_neg hne, dgs_zs M r hM]
  simp
end Go.Proofs.YtjebnpkebccffaaGreatDoor
namespace Go.Proofs.YtjebnpkebccffaaGreatDoor
open Go.RowKit
theorem eF_num (neg : Bool) (l : List Nat) (E : Int) (h1 : -3 ≤ E) (h2 : E ≤ 20) : ∃ r : Nat, E - eF ⟨neg, l, E⟩ = (r : Int) ∧ r ≤ 2 ∧
    (r = 0 ∧ E.tmod 3 = 0 ∨ r = 1 ∧ (E.tmod 3 = 1 ∨ E.tmod 3 = -2) ∨ r = 2 ∧ (E.tmod 3 = 2 ∨ E.tmod 3 = -1)) ∧ ((eF ⟨neg, l, E⟩).tmod 3 = 0) := by
  have key : ∀ k : Fin 24, ∃ r : Fin 3, ((k.val : Int) - 3) - (((k.val : Int) - 3 + 300).tdiv 3 * 3 - 300) = (r.val : Int) ∧
      (r.val = 0 ∧ ((k.val : Int) - 3).tmod 3 = 0 ∨ r.val = 1 ∧ (((k.val : Int) - 3).tmod 3 = 1 ∨ ((k.val : Int) - 3).tmod 3 = -2) ∨ r.val = 2 ∧ (((k.val : Int) - 3).tmod 3 = 2 ∨ ((k.val : Int) - 3).tmod 3 = -1)) ∧ ((((k.val : Int) - 3 + 300).tdiv 3 * 3 - 300).tmod 3 = 0) := by decide +kernel
  obtain ⟨r, h3, h4, h5⟩ := key ⟨(E + 3).toNat, by omega⟩
  have e : ((((⟨(E + 3).toNat, by omega⟩ : Fin 24)).val : Nat) : Int) - 3 = E := by show ((E + 3).toNat : Int) - 3 = E; omega
  rw [e] at h3 h4 h5
  exact ⟨r.val, h3, by omega, h4, h5⟩
theorem eF_vals {x : Int} (h1 : -3 ≤ x) (h2 : x ≤ 18) (h3 : x.tmod 3 = 0) : x = -3 ∨ x = 0 ∨ x = 3 ∨ x = 6 ∨ x = 9 ∨ x = 12 ∨ x = 15 ∨ x = 18 := by
  rw [Int.tmod_eq_emod] at h3
  split at h3 <;> omega
theorem suf_dec (x : Int) (h : x = -3 ∨ x = 0 ∨ x = 3 ∨ x = 6 ∨ x = 9 ∨ x = 12 ∨ x = 15 ∨ x = 18) : lkT (sufT decE) (10, x) = some (sufX 2 x) := by
  rcases h with rfl | rfl | rfl | rfl | rfl | rfl | rfl | rfl <;> kernel_rfl
theorem suf_exp (x : Int) (h : x = -3 ∨ x = 3 ∨ x = 6 ∨ x = 9 ∨ x = 12 ∨ x = 15 ∨ x = 18) : sufX 0 x = expT x := by
  have t1 : ∀ y : Nat, y ≠ 0 → y < 100 → txtI (y : Int) = txtL false (dgs y) := by
    intro y hy _
    unfold txtI
    rw [decF (show ¬ ((y : Int) < 0) by omega), Int.natAbs_natCast]
    obtain ⟨M, k, e, hM⟩ := prim y hy
    have hM0 : M ≠ 0 := fun h => by rw [h] at hM; exact hM rfl
    have hn := nd_pow false M k 0
    unfold nd at hn
    rw [e, hn]
    have hp := nd_prim false M (0 + (k : Int)) hM
    unfold nd at hp
    rw [hp, Int.zero_add, txtD_num false M k hM0]
  have d1 : ∀ y : Nat, y ≠ 0 → y < 10 → txtI (y : Int) = ⟨#[UInt8.ofNat (48 + y)]⟩ := by
    intro y hy h
    rw [t1 y hy (by omega), ← itoaB_pos y hy]
    unfold itoaB Lib.itoa
    rw [if_neg (by omega), Int.toNat_natCast, Lib.decDigits, dif_pos h]
  have d2 : ∀ y : Nat, 10 ≤ y → y < 100 → txtI (y : Int) = ⟨#[UInt8.ofNat (48 + y / 10), UInt8.ofNat (48 + y % 10)]⟩ := by
    intro y hy h
    rw [t1 y (by omega) (by omega), ← itoaB_pos y (by omega)]
    unfold itoaB Lib.itoa
    rw [if_neg (by omega), Int.toNat_natCast, Lib.decDigits, dif_neg (by omega), Lib.decDigits, dif_pos (by omega)]
    rfl
  rcases h with rfl | rfl | rfl | rfl | rfl | rfl | rfl
  · unfold sufX
    rw [if_neg (by decide), if_neg (by decide), if_pos (by decide), show -(-3 : Int) = ((3 : Nat) : Int) by rfl, d1 3 (by decide) (by decide)]
    rfl
  · unfold sufX
    rw [if_neg (by decide), if_neg (by decide), if_neg (by decide), show (3 : Int) = ((3 : Nat) : Int) by rfl, d1 3 (by decide) (by decide)]
    rfl
  · unfold sufX
    rw [if_neg (by decide), if_neg (by decide), if_neg (by decide), show (6 : Int) = ((6 : Nat) : Int) by rfl, d1 6 (by decide) (by decide)]
    rfl
  · unfold sufX
    rw [if_neg (by decide), if_neg (by decide), if_neg (by decide), show (9 : Int) = ((9 : Nat) : Int) by rfl, d1 9 (by decide) (by decide)]
    rfl
  · unfold sufX
    rw [if_neg (by decide), if_neg (by decide), if_neg (by decide), show (12 : Int) = ((12 : Nat) : Int) by rfl, d2 12 (by decide) (by decide)]
    rfl
  · unfold sufX
    rw [if_neg (by decide), if_neg (by decide), if_neg (by decide), show (15 : Int) = ((15 : Nat) : Int) by rfl, d2 15 (by decide) (by decide)]
    rfl
  · unfold sufX
    rw [if_neg (by decide), if_neg (by decide), if_neg (by decide), show (18 : Int) = ((18 : Nat) : Int) by rfl, d2 18 (by decide) (by decide)]
    rfl
theorem prim1024 (N : Nat) (h : N ≠ 0) : ∃ M k, N = M * 1024 ^ k ∧ M % 1024 ≠ 0 := by
  induction N using Nat.strongRecOn with
  | _ N ih =>
    by_cases h10 : N % 1024 = 0
    · obtain ⟨M, k, e, hM⟩ := ih (N / 1024) (by omega) (by omega)
      refine ⟨M, k + 1, ?_, hM⟩
      rw [Nat.pow_succ, ← Nat.mul_assoc, ← e]
      omega
    · exact ⟨N, 0, by simp, h10⟩
theorem b1024_pos (M : Nat) (hM : M % 1024 ≠ 0) : ∀ (k n : Nat), k ≤ n → M * 1024 ^ k ≤ 9223372036854775807 → b1024 n ((M * 1024 ^ k : Nat) : Int) = ((M : Int), k) := by
  intro k
  induction k with
  | zero =>
    intro n _ h
    rw [Nat.pow_zero, Nat.mul_one] at h ⊢
    refine b1024_stop ?_
    show ¬ ((M % 1024 : Nat) : Int) = 0
    omega
  | succ k ih =>
    intro n hn h
    obtain ⟨n', rfl⟩ : ∃ n', n = n' + 1 := ⟨n - 1, by omega⟩
    have e : M * 1024 ^ (k + 1) = M * 1024 ^ k * 1024 := by rw [Nat.pow_succ, Nat.mul_assoc]
    rw [e] at h ⊢
    generalize hX : M * 1024 ^ k = X at *
    have h1 : ((X * 1024 : Nat) : Int).tmod 1024 = 0 := by show ((X * 1024 % 1024 : Nat) : Int) = 0; omega
    have h2 : ((X * 1024 : Nat) : Int).tdiv 1024 = (X : Int) := by show ((X * 1024 / 1024 : Nat) : Int) = _; omega
    rw [b1024_go h1, h2, w64 (by omega) (by omega), ih n' (by omega) (by omega)]
theorem b1024_neg (M : Nat) (hM : M % 1024 ≠ 0) : ∀ (k n : Nat), k ≤ n → M * 1024 ^ k ≤ 9223372036854775807 → b1024 n (-((M * 1024 ^ k : Nat) : Int)) = (-(M : Int), k) := by
  intro k
  induction k with
  | zero =>
    intro n _ h
    rw [Nat.pow_zero, Nat.mul_one] at h ⊢
    refine b1024_stop ?_
    rw [Int.neg_tmod]
    show ¬ -((M % 1024 : Nat) : Int) = 0
    omega
  | succ k ih =>
    intro n hn h
    obtain ⟨n', rfl⟩ : ∃ n', n = n' + 1 := ⟨n - 1, by omega⟩
    have e : M * 1024 ^ (k + 1) = M * 1024 ^ k * 1024 := by rw [Nat.pow_succ, Nat.mul_assoc]
    rw [e] at h ⊢
    generalize hX : M * 1024 ^ k = X at *
    have h1 : (-((X * 1024 : Nat) : Int)).tmod 1024 = 0 := by rw [Int.neg_tmod]; show -((X * 1024 % 1024 : Nat) : Int) = 0; omega
    have h2 : (-((X * 1024 : Nat) : Int)).tdiv 1024 = -(X : Int) := by rw [Int.neg_tdiv]; show -((X * 1024 / 1024 : Nat) : Int) = _; omega
    rw [b1024_go h1, h2, w64 (by omega) (by omega), ih n' (by omega) (by omega)]
theorem k1024_le {M k : Nat} (hM : M ≠ 0) (h : M * 1024 ^ k ≤ 9223372036854775807) : k ≤ 6 := by
  rcases Nat.lt_or_ge 6 k with h' | h'
  · exfalso
    have h1 : 1024 ^ 7 ≤ 1024 ^ k := Nat.pow_le_pow_right (by omega) h'
    have h2 : 1 * 1024 ^ k ≤ M * 1024 ^ k := Nat.mul_le_mul_right _ (by omega)
    have h3 : (1024 : Nat) ^ 7 = 1180591620717411303424 := by decide
    omega
  · exact h'
theorem suf_bin (k : Nat) (h0 : 1 ≤ k) (h : k ≤ 6) : lkT (sufT binE) (2, (k : Int) * 10) = some (binS k) := by
  rcases (show k = 1 ∨ k = 2 ∨ k = 3 ∨ k = 4 ∨ k = 5 ∨ k = 6 by omega) with rfl | rfl | rfl | rfl | rfl | rfl <;> kernel_rfl
end Go.Proofs.YtjebnpkebccffaaGreatDoor
