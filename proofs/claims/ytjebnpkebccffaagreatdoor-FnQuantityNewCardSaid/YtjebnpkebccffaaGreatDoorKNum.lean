set_option linter.unusedSimpArgs false
set_option linter.unusedVariables false
set_option linter.unusedSectionVars false
namespace Go.Proofs.YtjebnpkebccffaaGreatDoor
def B64 : Nat := 18446744073709551616
theorem B64_pos : 0 < B64 := by unfold B64; omega
def val : List Nat → Nat
  | [] => 0
  | x :: l => x + B64 * val l
def dig (n : Nat) : List Nat := if _h : n = 0 then [] else (n % B64) :: dig (n / B64)
termination_by n
decreasing_by exact Nat.div_lt_self (Nat.pos_of_ne_zero _h) (by unfold B64; omega)
theorem dig_zero : dig 0 = [] := by unfold dig; simp
theorem dig_pos {n : Nat} (h : n ≠ 0) : dig n = (n % B64) :: dig (n / B64) := by
  rw [dig, dif_neg h]
theorem dig_one {n : Nat} (h : n ≠ 0) (hn : n < B64) : dig n = [n] := by
  rw [dig_pos h, Nat.mod_eq_of_lt hn, Nat.div_eq_of_lt hn, dig_zero]
theorem val_nil : val [] = 0 := rfl
theorem val_cons (x : Nat) (l : List Nat) : val (x :: l) = x + B64 * val l := rfl
theorem val_append (a b : List Nat) : val (a ++ b) = val a + B64 ^ a.length * val b := by
  induction a with
  | nil => simp [val]
  | cons x a ih => simp only [List.cons_append, val_cons, ih, List.length_cons, Nat.pow_succ, Nat.mul_add, Nat.mul_comm, Nat.mul_assoc, Nat.add_assoc]
theorem val_dig (n : Nat) : val (dig n) = n := by
  induction n using Nat.strongRecOn with
  | _ n ih =>
    by_cases h : n = 0
    · subst h; rw [dig_zero]; rfl
    · rw [dig_pos h, val_cons, ih _ (Nat.div_lt_self (Nat.pos_of_ne_zero h) (by unfold B64; omega))]
      have := Nat.mod_add_div n B64
      exact this
theorem dig_lt (n : Nat) : ∀ x ∈ dig n, x < B64 := by
  induction n using Nat.strongRecOn with
  | _ n ih =>
    by_cases h : n = 0
    · subst h; rw [dig_zero]; simp
    · rw [dig_pos h]
      intro x hx
      rcases List.mem_cons.1 hx with h1 | h1
      · subst h1; exact Nat.mod_lt _ B64_pos
      · exact ih _ (Nat.div_lt_self (Nat.pos_of_ne_zero h) (by unfold B64; omega)) x h1
theorem val_lt {l : List Nat} (h : ∀ x ∈ l, x < B64) : val l < B64 ^ l.length := by
  induction l with
  | nil => simp [val]
  | cons x l ih =>
    have h1 := ih (fun y hy => h y (List.mem_cons_of_mem _ hy))
    have h2 := h x (List.mem_cons_self ..)
    rw [val_cons, List.length_cons, Nat.pow_succ]
    have h3 : B64 * (val l + 1) ≤ B64 * B64 ^ l.length := Nat.mul_le_mul_left _ h1
    rw [Nat.mul_add] at h3
    rw [Nat.mul_comm (B64 ^ l.length)]
    omega
theorem dig_len_lt (n : Nat) : n < B64 ^ (dig n).length := by
  have := val_lt (dig_lt n); rwa [val_dig] at this
theorem dig_ne {n : Nat} (h : n ≠ 0) : dig n ≠ [] := by rw [dig_pos h]; simp
theorem dig_len_pos {n : Nat} (h : n ≠ 0) : 0 < (dig n).length := List.length_pos_iff.2 (dig_ne h)
theorem dig_eq_nil {n : Nat} : dig n = [] ↔ n = 0 := ⟨fun h => by by_cases h0 : n = 0; exact h0; exact absurd h (dig_ne h0), fun h => by rw [h, dig_zero]⟩
theorem dig_len_le {n k : Nat} (h : n < B64 ^ k) : (dig n).length ≤ k := by
  induction k generalizing n with
  | zero => have : n = 0 := by simp at h; exact h
            subst this; simp [dig_zero]
  | succ k ih =>
    by_cases h0 : n = 0
    · subst h0; simp [dig_zero]
    · rw [dig_pos h0, List.length_cons]
      have : n / B64 < B64 ^ k := by rw [Nat.div_lt_iff_lt_mul B64_pos]; rwa [Nat.pow_succ] at h
      have := ih this
      omega
theorem dig_len_mono {a b : Nat} (h : a ≤ b) : (dig a).length ≤ (dig b).length := dig_len_le (Nat.lt_of_le_of_lt h (dig_len_lt b))
theorem dig_val {l : List Nat} (h : ∀ x ∈ l, x < B64) : ∃ k, l = dig (val l) ++ List.replicate k 0 := by
  induction l with
  | nil => exact ⟨0, by simp [val, dig_zero]⟩
  | cons x l ih =>
    obtain ⟨k, hk⟩ := ih (fun y hy => h y (List.mem_cons_of_mem _ hy))
    have hx := h x (List.mem_cons_self ..)
    by_cases h0 : val (x :: l) = 0
    · rw [h0, dig_zero]
      rw [val_cons] at h0
      have hx0 : x = 0 := by omega
      have hl0 : val l = 0 := by
        rcases Nat.mul_eq_zero.1 (show B64 * val l = 0 by omega) with h1 | h1
        · exact absurd h1 (by unfold B64; omega)
        · exact h1
      rw [hl0, dig_zero, List.nil_append] at hk
      exact ⟨k + 1, by rw [List.replicate_succ, hx0]; simp; exact hk⟩
    · refine ⟨k, ?_⟩
      rw [dig_pos h0, val_cons, Nat.add_mul_mod_self_left, Nat.mod_eq_of_lt hx, Nat.add_mul_div_left _ _ B64_pos, Nat.div_eq_of_lt hx, Nat.zero_add, List.cons_append, ← hk]
theorem dig_val_take {l : List Nat} (h : ∀ x ∈ l, x < B64) : (dig (val l)).length ≤ l.length ∧ l.take (dig (val l)).length = dig (val l) ∧ ∀ i, (dig (val l)).length ≤ i → i < l.length → l[i]? = some 0 := by
  obtain ⟨k, hk⟩ := dig_val h
  have hlen : l.length = (dig (val l)).length + k := by conv => lhs; rw [hk]
                                                        simp
  refine ⟨by omega, ?_, fun i h1 h2 => ?_⟩
  · conv => lhs; arg 2; rw [hk]
    simp
  · rw [hk, List.getElem?_append_right h1, List.getElem?_replicate, if_pos (by omega)]
theorem dig_last {n : Nat} (h : n ≠ 0) : (dig n)[(dig n).length - 1]? ≠ some 0 := by
  intro h0
  have hp := dig_len_pos h
  have h1 : dig n = (dig n).take ((dig n).length - 1) ++ [0] := by
    have h2 := List.getElem?_eq_some_iff.1 h0
    obtain ⟨h3, h4⟩ := h2
    conv => lhs; rw [← List.take_append_drop ((dig n).length - 1) (dig n)]
    congr 1
    rw [List.drop_eq_getElem_cons h3, h4]
    simp; omega
  have h5 : val (dig n) = val ((dig n).take ((dig n).length - 1)) := by
    conv => lhs; rw [h1]
    rw [val_append]; simp [val]
  rw [val_dig] at h5
  have h6 := val_lt (l := (dig n).take ((dig n).length - 1)) (fun x hx => dig_lt n x (List.mem_of_mem_take hx))
  rw [← h5] at h6
  have h7 := dig_len_le h6
  rw [List.length_take] at h7
  omega
def maL : List Nat → Nat → Nat → List Nat
  | [], _, _ => []
  | x :: l, y, c => ((x * y + c) % B64) :: maL l y ((x * y + c) / B64)
def maC : List Nat → Nat → Nat → Nat
  | [], _, c => c
  | x :: l, y, c => maC l y ((x * y + c) / B64)
theorem maL_len (l : List Nat) (y c : Nat) : (maL l y c).length = l.length := by
  induction l generalizing c with
  | nil => rfl
  | cons x l ih => simp [maL, ih]
theorem ma_val (l : List Nat) (y c : Nat) : val (maL l y c) + B64 ^ l.length * maC l y c = val l * y + c := by
  induction l generalizing c with
  | nil => simp [maL, maC, val]
  | cons x l ih =>
    have h1 := ih ((x * y + c) / B64)
    have h2 := Nat.mod_add_div (x * y + c) B64
    simp only [maL, maC, val_cons, List.length_cons, Nat.pow_succ]
    have h3 : B64 * (val (maL l y ((x * y + c) / B64)) + B64 ^ l.length * maC l y ((x * y + c) / B64)) = B64 * (val l * y + (x * y + c) / B64) := by rw [h1]
    rw [Nat.mul_add, Nat.mul_add] at h3
    rw [Nat.add_mul, Nat.mul_comm (B64 ^ l.length) B64, Nat.mul_assoc B64 (B64 ^ l.length), Nat.mul_assoc B64 (val l)]
    omega
theorem ma_step {x y c : Nat} (hx : x < B64) (hy : y < B64) (hc : c < B64) : (x * y + c) / B64 < B64 := by
  rw [Nat.div_lt_iff_lt_mul B64_pos]
  have : x * y ≤ (B64 - 1) * (B64 - 1) := Nat.mul_le_mul (by omega) (by omega)
  have e : (B64 - 1) * (B64 - 1) + B64 ≤ B64 * B64 := by unfold B64; omega
  omega
theorem maC_lt {l : List Nat} {y c : Nat} (h : ∀ x ∈ l, x < B64) (hy : y < B64) (hc : c < B64) : maC l y c < B64 := by
  induction l generalizing c with
  | nil => exact hc
  | cons x l ih => exact ih (fun z hz => h z (List.mem_cons_of_mem _ hz)) (ma_step (h x (List.mem_cons_self ..)) hy hc)
theorem maL_lt (l : List Nat) (y c : Nat) : ∀ x ∈ maL l y c, x < B64 := by
  induction l generalizing c with
  | nil => simp [maL]
  | cons x l ih =>
    intro z hz
    rcases List.mem_cons.1 hz with h | h
    · subst h; exact Nat.mod_lt _ B64_pos
    · exact ih _ z h
theorem val_split (l : List Nat) (i : Nat) (h : i < l.length) : val l = val (l.take i) + B64 ^ i * (l[i] + B64 * val (l.drop (i + 1))) := by
  have h1 : l = l.take i ++ (l[i] :: l.drop (i + 1)) := by
    rw [← List.drop_eq_getElem_cons h, List.take_append_drop]
  have h2 : val l = val (l.take i ++ (l[i] :: l.drop (i + 1))) := by rw [← h1]
  rw [h2, val_append, val_cons, List.length_take, Nat.min_eq_left (by omega)]
theorem dig_len_cmp {a b : Nat} (h : (dig a).length < (dig b).length) : a < b := by
  rcases Nat.lt_or_ge a b with h1 | h1
  · exact h1
  · have := dig_len_mono h1; omega
theorem val_less {xs ys : List Nat} (hx : ∀ x ∈ xs, x < B64) (hl : xs.length = ys.length) (i : Nat) (hi : i < xs.length) (hd : xs.drop (i + 1) = ys.drop (i + 1)) (h : xs[i] < ys[i]'(hl ▸ hi)) : val xs < val ys := by
  rw [val_split xs i hi, val_split ys i (hl ▸ hi), hd]
  have h1 : val (xs.take i) < B64 ^ i := by
    have := val_lt (l := xs.take i) (fun x hx' => hx x (List.mem_of_mem_take hx'))
    rwa [List.length_take, Nat.min_eq_left (by omega)] at this
  have h2 : B64 ^ i * (xs[i] + 1 + B64 * val (ys.drop (i + 1))) ≤ B64 ^ i * (ys[i]'(hl ▸ hi) + B64 * val (ys.drop (i + 1))) := Nat.mul_le_mul_left _ (by omega)
  have h3 : B64 ^ i * (xs[i] + 1 + B64 * val (ys.drop (i + 1))) = B64 ^ i * (xs[i] + B64 * val (ys.drop (i + 1))) + B64 ^ i := by
    rw [show xs[i] + 1 + B64 * val (ys.drop (i + 1)) = (xs[i] + B64 * val (ys.drop (i + 1))) + 1 by omega, Nat.mul_add, Nat.mul_one]
  omega
theorem dig_low (n : Nat) : (dig n).getD 0 0 = n % B64 := by
  by_cases h : n = 0
  · subst h; simp [dig_zero]
  · rw [dig_pos h]; rfl
theorem dig_len_one {n : Nat} : (dig n).length ≤ 1 ↔ n < B64 := by
  constructor
  · intro h
    have h1 := dig_len_lt n
    have h2 : B64 ^ (dig n).length ≤ B64 ^ 1 := Nat.pow_le_pow_right B64_pos h
    rw [Nat.pow_one] at h2
    omega
  · intro h; exact dig_len_le (by rwa [Nat.pow_one])
def adS (x y c : Nat) : Nat := (x + y + c) % B64
def adC (x y c : Nat) : Nat := (x + y + c) / B64
def sbD (x y c : Nat) : Nat := (x + B64 - y - c) % B64
def sbB (x y c : Nat) : Nat := if x < y + c then 1 else 0
def mwL (x y c : Nat) : Nat := (x * y + c) % B64
def mwH (x y c : Nat) : Nat := (x * y + c) / B64
theorem adS_lt (x y c : Nat) : adS x y c < B64 := Nat.mod_lt _ B64_pos
theorem adC_le {x y c : Nat} (hx : x < B64) (hy : y < B64) (hc : c ≤ 1) : adC x y c ≤ 1 := by
  unfold adC
  have : (x + y + c) / B64 < 2 := by rw [Nat.div_lt_iff_lt_mul B64_pos]; omega
  omega
theorem ad_val (x y c : Nat) : adS x y c + B64 * adC x y c = x + y + c := Nat.mod_add_div _ _
theorem sbD_lt (x y c : Nat) : sbD x y c < B64 := Nat.mod_lt _ B64_pos
theorem sbB_le (x y c : Nat) : sbB x y c ≤ 1 := by unfold sbB; split <;> omega
theorem sb_val {x y c : Nat} (hx : x < B64) (hy : y < B64) (hc : c ≤ 1) : sbD x y c + y + c = x + B64 * sbB x y c := by
  unfold sbD sbB
  split
  · rename_i h
    rw [Nat.mod_eq_of_lt (by omega)]; omega
  · rename_i h
    rw [show x + B64 - y - c = (x - y - c) + B64 by omega, Nat.add_mod_right, Nat.mod_eq_of_lt (by omega)]; omega
theorem mwL_lt (x y c : Nat) : mwL x y c < B64 := Nat.mod_lt _ B64_pos
theorem mwH_lt {x y c : Nat} (hx : x < B64) (hy : y < B64) (hc : c < B64) : mwH x y c < B64 := ma_step hx hy hc
theorem mw_val (x y c : Nat) : mwL x y c + B64 * mwH x y c = x * y + c := Nat.mod_add_div _ _
theorem maC_snoc (l : List Nat) (x y c : Nat) : maC (l ++ [x]) y c = mwH x y (maC l y c) := by
  induction l generalizing c with
  | nil => rfl
  | cons z l ih => exact ih _
theorem maL_snoc (l : List Nat) (x y c : Nat) : maL (l ++ [x]) y c = maL l y c ++ [mwL x y (maC l y c)] := by
  induction l generalizing c with
  | nil => rfl
  | cons z l ih => simp only [List.cons_append, maL, maC, ih]
theorem take_succ_getD (l : List Nat) (j : Nat) (h : j < l.length) : l.take (j + 1) = l.take j ++ [l.getD j 0] := by
  rw [List.take_succ_eq_append_getElem h, List.getD_eq_getElem?_getD, List.getElem?_eq_getElem h]; rfl
theorem getD_lt {l : List Nat} (h : ∀ x ∈ l, x < B64) (i : Nat) : l.getD i 0 < B64 := by
  rw [List.getD_eq_getElem?_getD]
  rcases Nat.lt_or_ge i l.length with h1 | h1
  · rw [List.getElem?_eq_getElem h1]; exact h _ (List.getElem_mem h1)
  · rw [List.getElem?_eq_none h1]; exact B64_pos
theorem take_lt {l : List Nat} (h : ∀ x ∈ l, x < B64) (j : Nat) : ∀ x ∈ l.take j, x < B64 := fun x hx => h x (List.mem_of_mem_take hx)
theorem norm_le (l : List Nat) (h : ∀ x ∈ l, x < B64) : (dig (val l)).length ≤ l.length := (dig_val_take h).1
theorem norm_zero {l : List Nat} (h : ∀ x ∈ l, x < B64) {p : Nat} (h1 : (dig (val l)).length ≤ p + 1) (hp : p < l.length) (h0 : l.getD p 0 = 0) : (dig (val l)).length ≤ p := by
  rcases Nat.lt_or_ge p (dig (val l)).length with h2 | h2
  · exfalso
    have h3 : (dig (val l)).length = p + 1 := by omega
    have hne : val l ≠ 0 := by intro e; rw [e, dig_zero] at h3; simp at h3
    have h4 := dig_last hne
    rw [← (dig_val_take h).2.1, List.getElem?_take] at h4
    apply h4
    rw [(dig_val_take h).2.1, h3, if_pos (by omega), Nat.add_sub_cancel, List.getElem?_eq_getElem hp]
    rw [List.getD_eq_getElem?_getD, List.getElem?_eq_getElem hp] at h0
    exact congrArg some h0
  · exact h2
theorem norm_nz {l : List Nat} (h : ∀ x ∈ l, x < B64) {p : Nat} (hp : p < l.length) (h0 : l.getD p 0 ≠ 0) : p + 1 ≤ (dig (val l)).length := by
  rcases Nat.lt_or_ge p (dig (val l)).length with h2 | h2
  · omega
  · exfalso
    have := (dig_val_take h).2.2 p h2 hp
    apply h0
    rw [List.getD_eq_getElem?_getD, this]; rfl
theorem norm_has {l : List Nat} (h : ∀ x ∈ l, x < B64) (i : Nat) (hi : i < (dig (val l)).length) : (dig (val l)).getD i 0 = l.getD i 0 := by
  have := (dig_val_take h).2.1
  rw [← this] at hi
  conv => lhs; rw [← this]
  rw [List.length_take] at hi
  rw [List.getD_eq_getElem?_getD, List.getD_eq_getElem?_getD, List.getElem?_take, if_pos (by omega)]
def cmpN (n m : Nat) : Int := if n < m then -1 else if m < n then 1 else 0
theorem cmpN_lt {n m : Nat} (h : n < m) : cmpN n m = -1 := by unfold cmpN; rw [if_pos h]
theorem cmpN_gt {n m : Nat} (h : m < n) : cmpN n m = 1 := by unfold cmpN; rw [if_neg (by omega), if_pos h]
theorem cmpN_eq {n m : Nat} (h : n = m) : cmpN n m = 0 := by unfold cmpN; rw [if_neg (by omega), if_neg (by omega)]
theorem cmpN_len_lt {n m : Nat} (h : (dig n).length < (dig m).length) : cmpN n m = -1 := cmpN_lt (dig_len_cmp h)
theorem cmpN_len_gt {n m : Nat} (h : (dig m).length < (dig n).length) : cmpN n m = 1 := cmpN_gt (dig_len_cmp h)
theorem drop_getD {l : List Nat} {p : Nat} (h : p < l.length) : l.drop p = l.getD p 0 :: l.drop (p + 1) := by
  rw [List.drop_eq_getElem_cons h, List.getD_eq_getElem?_getD, List.getElem?_eq_getElem h]; rfl
theorem dig_less {n m p : Nat} (hl : (dig n).length = (dig m).length) (hp : p < (dig n).length) (hd : (dig n).drop (p + 1) = (dig m).drop (p + 1)) (h : (dig n).getD p 0 < (dig m).getD p 0) : n < m := by
  have := val_less (dig_lt n) hl p hp hd (by
    rw [List.getD_eq_getElem?_getD, List.getD_eq_getElem?_getD, List.getElem?_eq_getElem hp, List.getElem?_eq_getElem (hl ▸ hp)] at h
    exact h)
  rwa [val_dig, val_dig] at this
theorem dig_same {n m : Nat} (h : dig n = dig m) : n = m := by rw [← val_dig n, h, val_dig]
end Go.Proofs.YtjebnpkebccffaaGreatDoor
