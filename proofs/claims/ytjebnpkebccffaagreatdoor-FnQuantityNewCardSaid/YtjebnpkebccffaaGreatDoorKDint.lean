import Derived.Test.YtjebnpkebccffaaGreatDoorKDcmw
set_option linter.unusedSimpArgs false
set_option linter.unusedVariables false
set_option linter.unusedSectionVars false
namespace Go.Proofs.YtjebnpkebccffaaGreatDoor
open Go.RowKit
theorem wide_len (d : Dm) (exp : Int) : (wideL d exp).length ≤ d.ds.length + (d.e - exp).toNat := by
  unfold wideL
  split
  · simp
  · simp [zs]
theorem wide_dig {d : Dm} {exp : Int} (h : ∀ x ∈ d.ds, x ≤ 9) : ∀ x ∈ wideL d exp, x ≤ 9 := by
  unfold wideL
  intro x hx
  split at hx
  · simp at hx
  · rcases List.mem_append.1 hx with hx | hx
    · exact h x hx
    · simp [zs] at hx; omega
def digS : ByteArray := ⟨#[48, 49, 50, 51, 52, 53, 54, 55, 56, 57]⟩
end Go.Proofs.YtjebnpkebccffaaGreatDoor
namespace Go.Proofs.YtjebnpkebccffaaGreatDoor
def dv : List Nat → Nat
  | [] => 0
  | x :: l => x * 10 ^ l.length + dv l
theorem dv_set : ∀ (l : List Nat) (j y : Nat), j < l.length → dv (l.set j y) + l.getD j 0 * 10 ^ (l.length - 1 - j) = dv l + y * 10 ^ (l.length - 1 - j) := by
  intro l
  induction l with
  | nil => intro j y h; simp at h
  | cons x l ih =>
    intro j y h
    cases j with
    | zero => simp [dv, List.getD]; omega
    | succ j =>
      have := ih j y (by simpa using h)
      have e : (x :: l).length - 1 - (j + 1) = l.length - 1 - j := by simp; omega
      rw [e]
      simp only [List.set_cons_succ, dv, List.length_set, List.getD_cons_succ]
      omega
theorem dv_snoc (l : List Nat) (x : Nat) : dv (l ++ [x]) = 10 * dv l + x := by
  induction l with
  | nil => simp [dv]
  | cons y l ih =>
    simp only [List.cons_append, dv, List.length_append, List.length_cons, List.length_nil, Nat.zero_add]
    rw [ih, Nat.pow_succ, Nat.mul_add]
    have : y * (10 ^ l.length * 10) = 10 * (y * 10 ^ l.length) := by rw [← Nat.mul_assoc, Nat.mul_comm]
    omega
theorem take_snoc (l : List Nat) (i : Nat) (h : i < l.length) : l.take (i + 1) = l.take i ++ [l.getD i 0] := by
  rw [List.take_add_one, List.getElem?_eq_getElem h]
  simp [List.getD, h]
theorem dv_take (l : List Nat) (i : Nat) (h : i < l.length) : dv (l.take (i + 1)) = 10 * dv (l.take i) + l.getD i 0 := by
  rw [take_snoc l i h, dv_snoc]
theorem dv_lt (l : List Nat) (h : ∀ x ∈ l, x ≤ 9) : dv l < 10 ^ l.length := by
  induction l with
  | nil => simp [dv]
  | cons x l ih =>
    have h1 := ih (fun y hy => h y (List.mem_cons_of_mem _ hy))
    have h2 := h x (List.mem_cons_self ..)
    simp only [dv, List.length_cons, Nat.pow_succ]
    have h3 : x * 10 ^ l.length ≤ 9 * 10 ^ l.length := Nat.mul_le_mul_right _ h2
    omega
theorem dv_zs (n : Nat) : dv (List.replicate n 0) = 0 := by
  induction n with
  | zero => rfl
  | succ n ih => simp [List.replicate_succ, dv, ih]
theorem dv_head (l : List Nat) (h : 0 < l.length) : l.getD 0 0 * 10 ^ (l.length - 1) ≤ dv l := by
  cases l with
  | nil => simp at h
  | cons x l => simp [dv, List.getD]
theorem set_getD (l : List Nat) (i j y : Nat) (h : i < l.length) : (l.set i y).getD j 0 = if i = j then y else l.getD j 0 := by
  simp only [List.getD, List.getElem?_set]
  split
  · simp_all
  · rfl
theorem mem_getD {l : List Nat} {x : Nat} (h : x ∈ l) : ∃ j, j < l.length ∧ l.getD j 0 = x := by
  obtain ⟨j, hj, e⟩ := List.mem_iff_getElem.1 h
  exact ⟨j, hj, by simp [List.getD, hj, e]⟩
theorem getD_mem {l : List Nat} {j : Nat} (h : j < l.length) : l.getD j 0 ∈ l := by
  simp only [List.getD, List.getElem?_eq_getElem h, Option.getD_some]
  exact List.getElem_mem h
def TI (A B : List Nat) (i k : Nat) (l : List Nat) : Prop :=
  l.length = A.length + B.length + 1 ∧ (∀ j, l.getD j 0 ≤ 81 * (i * B.length + k)) ∧ dv l = dv (A.take i) * 10 ^ (A.length - i) * dv B + A.getD i 0 * 10 ^ (A.length - 1 - i) * (dv (B.take k) * 10 ^ (B.length - k))
theorem TI.start (A B : List Nat) : TI A B 0 0 (List.replicate (A.length + B.length + 1) 0) := by
  refine ⟨by simp, fun j => ?_, ?_⟩
  · simp only [List.getD, List.getElem?_replicate]
    split <;> simp
  · rw [dv_zs]; simp [dv]
theorem TI.step {A B l : List Nat} {i k : Nat} (h : TI A B i k l) (hA : ∀ x ∈ A, x ≤ 9) (hB : ∀ x ∈ B, x ≤ 9) (hi : i < A.length) (hk : k < B.length) :
    TI A B i (k + 1) (l.set (i + k + 2) (l.getD (i + k + 2) 0 + A.getD i 0 * B.getD k 0)) := by
  obtain ⟨h1, h2, h3⟩ := h
  have ha := hA _ (getD_mem hi)
  have hb := hB _ (getD_mem hk)
  have hab : A.getD i 0 * B.getD k 0 ≤ 9 * 9 := Nat.mul_le_mul ha hb
  refine ⟨by simp [h1], fun j => ?_, ?_⟩
  · rw [set_getD _ _ _ _ (by omega)]
    split
    · have := h2 (i + k + 2); omega
    · have := h2 j; omega
  · have hs := dv_set l (i + k + 2) (l.getD (i + k + 2) 0 + A.getD i 0 * B.getD k 0) (by omega)
    rw [Nat.add_mul] at hs
    have e1 : l.length - 1 - (i + k + 2) = (A.length - 1 - i) + (B.length - (k + 1)) := by omega
    rw [e1] at hs
    have e2 : A.getD i 0 * B.getD k 0 * 10 ^ ((A.length - 1 - i) + (B.length - (k + 1))) = A.getD i 0 * 10 ^ (A.length - 1 - i) * (B.getD k 0 * 10 ^ (B.length - (k + 1))) := by
      rw [Nat.pow_add]; ac_rfl
    have e3 : dv (B.take (k + 1)) * 10 ^ (B.length - (k + 1)) = dv (B.take k) * 10 ^ (B.length - k) + B.getD k 0 * 10 ^ (B.length - (k + 1)) := by
      rw [dv_take B k hk, Nat.add_mul, show B.length - k = (B.length - (k + 1)) + 1 by omega, Nat.pow_succ]
      congr 1
      ac_rfl
    rw [e3, Nat.mul_add, ← e2]
    omega
theorem TI.row {A B l : List Nat} {i : Nat} (h : TI A B i B.length l) (hi : i < A.length) : TI A B (i + 1) 0 l := by
  obtain ⟨h1, h2, h3⟩ := h
  refine ⟨h1, fun j => ?_, ?_⟩
  · have := h2 j
    rw [Nat.add_mul]
    omega
  · rw [h3, List.take_length, Nat.sub_self, Nat.pow_zero, Nat.mul_one, ← Nat.add_mul, dv_take A i hi]
    simp only [List.take_zero, dv, Nat.zero_mul, Nat.mul_zero, Nat.add_zero]
    congr 1
    rw [Nat.add_mul, show A.length - 1 - i = A.length - (i + 1) by omega, show A.length - i = (A.length - (i + 1)) + 1 by omega, Nat.pow_succ]
    congr 1
    ac_rfl
theorem TI.done {A B l : List Nat} (h : TI A B A.length 0 l) : dv l = dv A * dv B := by
  rw [h.2.2]
  simp [dv]
def CI (M D L j : Nat) (l : List Nat) : Prop := l.length = L ∧ dv l = D ∧ (∀ x, j < x → l.getD x 0 ≤ 9) ∧ (∀ x, x < j → l.getD x 0 ≤ M) ∧ l.getD j 0 ≤ 2 * M
theorem CI.start {A B l : List Nat} (h : TI A B A.length 0 l) : CI (81 * (A.length * B.length)) (dv A * dv B) (A.length + B.length + 1) (A.length + B.length) l := by
  refine ⟨h.1, h.done, fun x hx => ?_, fun x _ => ?_, ?_⟩
  · rw [List.getD_eq_getElem?_getD, List.getElem?_eq_none (by rw [h.1]; omega)]; simp
  · simpa using h.2.1 x
  · have := h.2.1 (A.length + B.length); omega
def cstep (l : List Nat) (j : Nat) : List Nat := (l.set (j - 1) (l.getD (j - 1) 0 + l.getD j 0 / 10)).set j (l.getD j 0 % 10)
theorem CI.step {M D L j : Nat} {l : List Nat} (h : CI M D L j l) (hj : 0 < j) (hL : j < L) : CI M D L (j - 1) (cstep l j) := by
  obtain ⟨h1, h2, h3, h4, h5⟩ := h
  have hj4 := h4 (j - 1) (by omega)
  have hq : ∀ x, (cstep l j).getD x 0 = if j = x then l.getD j 0 % 10 else if j - 1 = x then l.getD (j - 1) 0 + l.getD j 0 / 10 else l.getD x 0 := by
    intro x
    rw [cstep, set_getD _ _ _ _ (by simp; omega), set_getD _ _ _ _ (by omega)]
  refine ⟨by simp [cstep, h1], ?_, fun x hx => ?_, fun x hx => ?_, ?_⟩
  · have s1 := dv_set l (j - 1) (l.getD (j - 1) 0 + l.getD j 0 / 10) (by omega)
    have s2 := dv_set (l.set (j - 1) (l.getD (j - 1) 0 + l.getD j 0 / 10)) j (l.getD j 0 % 10) (by simp; omega)
    rw [set_getD _ _ _ _ (by omega), if_neg (by omega), List.length_set] at s2
    have e : l.length - 1 - (j - 1) = (l.length - 1 - j) + 1 := by omega
    rw [e, Nat.pow_succ, Nat.add_mul] at s1
    show dv (cstep l j) = D
    unfold cstep
    have hd := Nat.div_add_mod (l.getD j 0) 10
    generalize 10 ^ (l.length - 1 - j) = P at *
    generalize l.getD j 0 = y at *
    have e2 : y * P = y / 10 * (P * 10) + y % 10 * P := by
      rw [← Nat.mul_assoc, Nat.mul_right_comm, ← Nat.add_mul]
      congr 1
      omega
    omega
  · rw [hq]
    split
    · omega
    · rw [if_neg (by omega)]; exact h3 x (by omega)
  · rw [hq, if_neg (by omega), if_neg (by omega)]
    exact h4 x (by omega)
  · rw [hq, if_neg (by omega), if_pos rfl]
    omega
theorem CI.done {M L n : Nat} {A B l : List Nat} (h : CI M (dv A * dv B) L 0 l) (hL : L = A.length + B.length + 1) (hn : n = A.length + B.length) (hA : ∀ x ∈ A, x ≤ 9) (hB : ∀ x ∈ B, x ≤ 9) : ∀ x ∈ l, x ≤ 9 := by
  obtain ⟨h1, h2, h3, -, -⟩ := h
  intro x hx
  obtain ⟨j, hj, rfl⟩ := mem_getD hx
  rcases Nat.eq_zero_or_pos j with rfl | hp
  · have hh := dv_head l (by omega)
    have hlt : dv A * dv B < 10 ^ A.length * 10 ^ B.length := Nat.mul_lt_mul'' (dv_lt A hA) (dv_lt B hB)
    rw [← Nat.pow_add, h2.symm, show A.length + B.length = l.length - 1 by omega] at hlt
    have : l.getD 0 0 * 10 ^ (l.length - 1) < 1 * 10 ^ (l.length - 1) := by omega
    have := Nat.lt_of_mul_lt_mul_right this
    omega
  · exact h3 j hp
end Go.Proofs.YtjebnpkebccffaaGreatDoor
namespace Go.Proofs.YtjebnpkebccffaaGreatDoor
theorem dgs_app (l : List Nat) (h : ∀ x ∈ l, x ≤ 9) : ∀ n, n ≠ 0 → dgs (n * 10 ^ l.length + dv l) = dgs n ++ l := by
  induction l with
  | nil => intro n hn; simp [dv]
  | cons y l ih =>
    intro n hn
    have hy := h y (List.mem_cons_self ..)
    have e : n * 10 ^ (y :: l).length + dv (y :: l) = (10 * n + y) * 10 ^ l.length + dv l := by
      simp only [dv, List.length_cons, Nat.pow_succ, Nat.add_mul]
      have : n * (10 ^ l.length * 10) = 10 * n * 10 ^ l.length := by
        rw [Nat.mul_comm (10 ^ l.length) 10, ← Nat.mul_assoc, Nat.mul_comm n 10]
      omega
    rw [e, ih (fun x hx => h x (List.mem_cons_of_mem _ hx)) _ (by omega), dgs_pos (by omega), show (10 * n + y) / 10 = n by omega, show (10 * n + y) % 10 = y by omega]
    simp
theorem dgs_digit {x : Nat} (h0 : x ≠ 0) (h : x ≤ 9) : dgs x = [x] := by
  rw [dgs_pos h0, show x / 10 = 0 by omega, dgs_zero, show x % 10 = x by omega]
  rfl
theorem lead_zero (l : List Nat) : lead (0 :: l) = lead l + 1 := by simp [lead]
theorem lead_ne {x : Nat} (l : List Nat) (h : x ≠ 0) : lead (x :: l) = 0 := by simp [lead, h]
theorem dgs_dv (l : List Nat) (h : ∀ x ∈ l, x ≤ 9) : dgs (dv l) = l.drop (lead l) := by
  induction l with
  | nil => simp [dv, dgs_zero]
  | cons x l ih =>
    have hl := fun y hy => h y (List.mem_cons_of_mem x hy)
    by_cases hx : x = 0
    · subst hx
      rw [lead_zero, List.drop_succ_cons]
      simp only [dv, Nat.zero_mul, Nat.zero_add]
      exact ih hl
    · rw [lead_ne l hx, List.drop_zero]
      show dgs (x * 10 ^ l.length + dv l) = _
      rw [dgs_app l hl x hx, dgs_digit hx (h x (List.mem_cons_self ..))]
      rfl
theorem dv_dgs (n : Nat) : dv (dgs n) = n := by
  induction n using Nat.strongRecOn with
  | _ n ih =>
    by_cases hn : n = 0
    · subst hn; rw [dgs_zero]; rfl
    · rw [dgs_pos hn, dv_snoc, ih (n / 10) (by omega)]
      omega
theorem dgs_dig (n : Nat) : ∀ x ∈ dgs n, x ≤ 9 := by
  have := (dgs_le n n (Nat.lt_pow_self (by omega))).2
  exact this
theorem dgs_ne {n : Nat} (h : n ≠ 0) : dgs n ≠ [] := by rw [dgs_pos h]; simp
theorem lead_dgs (n : Nat) : lead (dgs n) = 0 := by
  have h := dgs_dv (dgs n) (dgs_dig n)
  rw [dv_dgs] at h
  have hl := congrArg List.length h
  rw [List.length_drop] at hl
  have := lead_le (dgs n)
  omega
theorem lead_rev_lt {l : List Nat} (h : lead l < l.length) : trail l < l.length := by
  unfold trail
  have hs := lead_stop l h
  rcases Nat.lt_or_ge (lead l.reverse) l.reverse.length with h1 | h1
  · simpa using h1
  · exfalso
    have h2 := lead_at l.reverse (l.length - 1 - lead l) (by simp at h1; omega)
    rw [rev_getD l _ (by omega), show l.length - 1 - (l.length - 1 - lead l) = lead l by omega] at h2
    exact hs h2
def nd (neg : Bool) (N : Nat) (e : Int) : Dm := decL neg (dgs N) e
theorem nd_zero (neg : Bool) (e : Int) : nd neg 0 e = ⟨false, [], 0⟩ := by unfold nd decL; rw [dgs_zero]; rfl
theorem trail_snoc (l : List Nat) : trail (l ++ [0]) = trail l + 1 := by unfold trail; rw [List.reverse_append]; exact lead_zero _
theorem nd_ten (neg : Bool) (N : Nat) (e : Int) : nd neg (N * 10) e = nd neg N (e + 1) := by
  by_cases hN : N = 0
  · subst hN; rw [Nat.zero_mul, nd_zero, nd_zero]
  · unfold nd decL
    have hd : dgs (N * 10) = dgs N ++ [0] := by rw [dgs_pos (by omega), show N * 10 / 10 = N by omega, show N * 10 % 10 = 0 by omega]
    have hl : (dgs N).length ≠ 0 := fun h => dgs_ne hN (List.eq_nil_of_length_eq_zero h)
    have hl2 : (dgs (N * 10)).length ≠ 0 := by rw [hd]; simp
    have hlt : trail (dgs N) < (dgs N).length := lead_rev_lt (by rw [lead_dgs]; omega)
    rw [lead_dgs, lead_dgs, if_neg (by omega), if_neg (by omega), hd, trail_snoc]
    simp only [List.drop_zero, Nat.sub_zero, List.length_append, List.length_cons, List.length_nil]
    congr 1
    · rw [show (dgs N).length + (0 + 1) - (trail (dgs N) + 1) = (dgs N).length - trail (dgs N) by omega, List.take_append_of_le_length (by omega)]
    · omega
theorem nd_pow (neg : Bool) (N k : Nat) (e : Int) : nd neg (N * 10 ^ k) e = nd neg N (e + (k : Int)) := by
  induction k generalizing e with
  | zero => simp
  | succ k ih =>
    rw [Nat.pow_succ, ← Nat.mul_assoc, nd_ten, ih]
    congr 1
    omega
theorem nd_prim (neg : Bool) (N : Nat) (e : Int) (h : N % 10 ≠ 0) : nd neg N e = ⟨neg, dgs N, e⟩ := by
  have hN : N ≠ 0 := fun h0 => by subst h0; exact h rfl
  have ht : trail (dgs N) = 0 := by
    rw [dgs_pos hN]
    unfold trail
    rw [List.reverse_append]
    exact lead_ne _ h
  have hl : (dgs N).length ≠ 0 := fun h => dgs_ne hN (List.eq_nil_of_length_eq_zero h)
  unfold nd decL
  rw [lead_dgs, if_neg (by omega), ht]
  simp
theorem prim (N : Nat) (h : N ≠ 0) : ∃ M k, N = M * 10 ^ k ∧ M % 10 ≠ 0 := by
  induction N using Nat.strongRecOn with
  | _ N ih =>
    by_cases h10 : N % 10 = 0
    · obtain ⟨M, k, e, hM⟩ := ih (N / 10) (by omega) (by omega)
      exact ⟨M, k + 1, by rw [Nat.pow_succ, ← Nat.mul_assoc, ← e]; omega, hM⟩
    · exact ⟨N, 0, by simp, h10⟩
inductive Pr : Dm → Prop
  | zero : Pr ⟨false, [], 0⟩
  | num (neg : Bool) (M : Nat) (e : Int) : M % 10 ≠ 0 → Pr ⟨neg, dgs M, e⟩
end Go.Proofs.YtjebnpkebccffaaGreatDoor
