import Derived.Test.YtjebnpkebccffaaGreatDoorJNum
set_option linter.unusedSimpArgs false
set_option linter.unusedVariables false
set_option linter.unusedSectionVars false
namespace Go.Proofs.YtjebnpkebccffaaGreatDoor
/-! ### What parseQuantityString computes -/
def runLen (p : Nat → Bool) : List UInt8 → Nat
  | [] => 0
  | c :: r => if p c.toNat then runLen p r + 1 else 0
/-- The first place from i on at which p does not hold. -/
def skip (p : Nat → Bool) (s : ByteArray) (i : Nat) : Nat := i + runLen p (s.data.toList.drop i)
theorem drop_cons (s : ByteArray) (i : Nat) (h : i < s.size) : s.data.toList.drop i = s[i] :: s.data.toList.drop (i + 1) := by
  have h' : i < s.data.toList.length := by simpa using h
  rw [List.drop_eq_getElem_cons h']
  rfl
theorem skip_stop {p : Nat → Bool} {s : ByteArray} {i : Nat} (h : i < s.size) (hp : p (s[i].toNat) = false) : skip p s i = i := by
  unfold skip
  rw [drop_cons s i h]
  simp [runLen, hp]
theorem skip_step {p : Nat → Bool} {s : ByteArray} {i : Nat} (h : i < s.size) (hp : p (s[i].toNat) = true) : skip p s i = skip p s (i + 1) := by
  unfold skip
  rw [drop_cons s i h]
  simp [runLen, hp]
  omega
theorem skip_end {p : Nat → Bool} {s : ByteArray} {i : Nat} (h : s.size ≤ i) : skip p s i = i := by
  unfold skip
  rw [List.drop_eq_nil_of_le (by simpa using h)]
  simp [runLen]
theorem skip_ge (p : Nat → Bool) (s : ByteArray) (i : Nat) : i ≤ skip p s i := Nat.le_add_right _ _
theorem runLen_le (p : Nat → Bool) (l : List UInt8) : runLen p l ≤ l.length := by
  induction l with
  | nil => simp [runLen]
  | cons c r ih => unfold runLen; split <;> simp <;> omega
theorem skip_le {p : Nat → Bool} {s : ByteArray} {i : Nat} (h : i ≤ s.size) : skip p s i ≤ s.size := by
  have := runLen_le p (s.data.toList.drop i)
  unfold skip
  have e : (s.data.toList.drop i).length = s.size - i := by simp [List.length_drop]
  omega
theorem runLen_all (p : Nat → Bool) (l : List UInt8) (j : Nat) (h : j < runLen p l) : ∃ c, l[j]? = some c ∧ p c.toNat = true := by
  induction l generalizing j with
  | nil => simp [runLen] at h
  | cons c r ih =>
    unfold runLen at h
    split at h
    · cases j with
      | zero => exact ⟨c, rfl, by assumption⟩
      | succ j => simpa using ih j (by omega)
    · omega
theorem skip_all {p : Nat → Bool} {s : ByteArray} {i j : Nat} (h1 : i ≤ j) (h2 : j < skip p s i) (hj : j < s.size) : p (s[j].toNat) = true := by
  unfold skip at h2
  obtain ⟨c, hc, hp⟩ := runLen_all p _ (j - i) (show j - i < runLen p (s.data.toList.drop i) by omega)
  rw [List.getElem?_drop, show i + (j - i) = j by omega] at hc
  have : s.data.toList[j]? = some s[j] := by
    have hj' : j < s.data.toList.length := by simpa using hj
    rw [List.getElem?_eq_getElem hj']
    rfl
  rw [this] at hc
  injection hc with hc
  rw [hc]; exact hp
theorem runLen_stop (p : Nat → Bool) (l : List UInt8) (c : UInt8) (h : l[runLen p l]? = some c) : p c.toNat = false := by
  induction l with
  | nil => simp at h
  | cons d r ih =>
    unfold runLen at h
    split at h
    · exact ih (by simpa using h)
    · simp at h; subst h; simpa using (by assumption : ¬ p d.toNat = true)
theorem skip_at {p : Nat → Bool} {s : ByteArray} {i : Nat} (h : skip p s i < s.size) : p (s[skip p s i].toNat) = false := by
  refine runLen_stop p (s.data.toList.drop i) _ ?_
  rw [List.getElem?_drop]
  have hj' : skip p s i < s.data.toList.length := by simpa using h
  show s.data.toList[skip p s i]? = _
  rw [List.getElem?_eq_getElem hj']
  rfl
def isZ (c : Nat) : Bool := c == 48
def isDg (c : Nat) : Bool := decide (48 ≤ c) && decide (c ≤ 57)
def isSf (c : Nat) : Bool := c == 101 || c == 69 || c == 105 || c == 110 || c == 117 || c == 109 || c == 107 || c == 75 || c == 77 || c == 71 || c == 84 || c == 80
def isSg (c : Nat) : Bool := c == 43 || c == 45
def byteAt (s : ByteArray) (i : Nat) : Nat := match s.data.toList[i]? with | some c => c.toNat | none => 0
theorem byteAt_get {s : ByteArray} {i : Nat} (h : i < s.size) : byteAt s i = s[i].toNat := by
  have hj' : i < s.data.toList.length := by simpa using h
  unfold byteAt
  rw [List.getElem?_eq_getElem hj']
  rfl
theorem byteAt_end {s : ByteArray} {i : Nat} (h : s.size ≤ i) : byteAt s i = 0 := by
  unfold byteAt
  rw [List.getElem?_eq_none (by simpa using h)]
structure PQ where
  pos : Bool
  value : ByteArray
  num : ByteArray
  denom : ByteArray
  suffix : ByteArray
  ok : Bool
def str0 : ByteArray := ⟨#[48]⟩
def noStr : ByteArray := ⟨#[]⟩
def sgnLen (s : ByteArray) : Nat := if isSg (byteAt s 0) then 1 else 0
def sgnOne (s : ByteArray) (f : Nat) : Nat := if isSg (byteAt s f) then f + 1 else f
def pqTail (s : ByteArray) (p : Bool) (num denom : ByteArray) (a : Nat) : PQ :=
  if skip isDg s (sgnOne s (skip isSf s a)) = s.size then ⟨p, s.extract 0 a, num, denom, s.extract a s.size, true⟩
  else ⟨p, s.extract 0 a, num, denom, noStr, false⟩
def pqNum (s : ByteArray) (z n : Nat) : ByteArray := if n = z then str0 else s.extract z n
def pqB (s : ByteArray) (p : Bool) (z n : Nat) : PQ :=
  if n = s.size then ⟨p, s, s.extract z s.size, noStr, noStr, true⟩ else
  if byteAt s n = 46 then
    if skip isDg s (n + 1) = s.size then ⟨p, s, pqNum s z n, s.extract (n + 1) s.size, noStr, true⟩
    else pqTail s p (pqNum s z n) (s.extract (n + 1) (skip isDg s (n + 1))) (skip isDg s (n + 1))
  else pqTail s p (pqNum s z n) noStr n
def pqA (s : ByteArray) (p : Bool) (z : Nat) : PQ :=
  if z = s.size then ⟨p, str0, str0, noStr, noStr, true⟩ else pqB s p z (skip isDg s z)
def pq (s : ByteArray) : PQ := pqA s (!(byteAt s 0 == 45)) (skip isZ s (sgnLen s))
/-- The bytes that a quantity may have. -/
def isQ (c : Nat) : Bool := isDg c || isSf c || isSg c || c == 46
theorem sgnOne_le {s : ByteArray} {f : Nat} (h : f ≤ s.size) : f ≤ sgnOne s f ∧ sgnOne s f ≤ s.size := by
  unfold sgnOne
  split
  · rename_i hs
    by_cases hf : f < s.size
    · omega
    · rw [byteAt_end (by omega)] at hs; simp [isSg] at hs
  · omega
theorem sgnOne_all {s : ByteArray} {f j : Nat} (h1 : f ≤ j) (h2 : j < sgnOne s f) (hj : j < s.size) : isSg (s[j].toNat) = true := by
  unfold sgnOne at h2
  split at h2
  · have : j = f := by omega
    subst this
    rw [← byteAt_get hj]; assumption
  · omega
theorem tail_all {s : ByteArray} {p : Bool} {num denom : ByteArray} {a : Nat} (ha : a ≤ s.size) (h : (pqTail s p num denom a).ok = true) (j : Nat) (h1 : a ≤ j) (hj : j < s.size) : isQ (s[j].toNat) = true := by
  unfold pqTail at h
  split at h
  · rename_i he
    by_cases c1 : j < skip isSf s a
    · have := skip_all h1 c1 hj
      simp [isQ, this]
    · by_cases c2 : j < sgnOne s (skip isSf s a)
      · have := sgnOne_all (by omega) c2 hj
        simp [isQ, this]
      · have := skip_all (p := isDg) (by omega) (show j < skip isDg s (sgnOne s (skip isSf s a)) by omega) hj
        simp [isQ, this]
  · simp at h
theorem pq_all {s : ByteArray} (h : (pq s).ok = true) (j : Nat) (hj : j < s.size) : isQ (s[j].toNat) = true := by
  have hs : sgnLen s ≤ s.size := by
    unfold sgnLen
    split
    · omega
    · omega
  have hz := skip_le (p := isZ) hs
  unfold pq pqA at h
  by_cases c0 : j < sgnLen s
  · unfold sgnLen at c0
    split at c0
    · have : j = 0 := by omega
      subst this
      rename_i hsg
      rw [byteAt_get hj] at hsg
      simp [isQ, hsg]
    · omega
  · by_cases c1 : j < skip isZ s (sgnLen s)
    · have := skip_all (by omega) c1 hj
      simp [isZ] at this
      simp [isQ, isDg, this]
    · have hn := skip_le (p := isDg) hz
      generalize hZ : skip isZ s (sgnLen s) = z at *
      split at h
      · omega
      · by_cases c2 : j < skip isDg s z
        · have := skip_all (p := isDg) (by omega) c2 hj
          simp [isQ, this]
        · unfold pqB at h
          generalize hN : skip isDg s z = n at *
          split at h
          · omega
          · split at h
            · rename_i h46
              by_cases c3 : j = n
              · subst c3
                rw [byteAt_get hj] at h46
                simp [isQ, h46]
              · have hd := skip_le (p := isDg) (s := s) (i := n + 1) (by omega)
                by_cases c4 : j < skip isDg s (n + 1)
                · have := skip_all (p := isDg) (by omega) c4 hj
                  simp [isQ, this]
                · split at h
                  · omega
                  · exact tail_all hd h j (by omega) hj
            · exact tail_all hn h j (by omega) hj
end Go.Proofs.YtjebnpkebccffaaGreatDoor
namespace Go.Proofs.YtjebnpkebccffaaGreatDoor
/-! ### What parseQuantityString makes of a word as it is written -/
theorem runLen_app {p : Nat → Bool} {a b : List UInt8} (ha : ∀ x ∈ a, p x.toNat = true) : runLen p (a ++ b) = a.length + runLen p b := by
  induction a with
  | nil => simp
  | cons c r ih =>
    have h1 := ha c (by simp)
    have h2 := ih (fun x hx => ha x (by simp [hx]))
    simp [runLen, h1, h2]
    omega
theorem runLen_no {p : Nat → Bool} {c : UInt8} {r : List UInt8} (h : p c.toNat = false) : runLen p (c :: r) = 0 := by simp [runLen, h]
theorem runLen_until {p : Nat → Bool} {a : List UInt8} {c : UInt8} {r : List UInt8} (h : p c.toNat = false) : runLen p (a ++ c :: r) = runLen p a := by
  induction a with
  | nil => simp [runLen, h]
  | cons d a ih => simp [runLen, ih]
theorem skip_split {p : Nat → Bool} {s : ByteArray} {pre rest : List UInt8} (h : s.data.toList = pre ++ rest) : skip p s pre.length = pre.length + runLen p rest := by
  unfold skip
  rw [h, List.drop_left]
theorem byteAt_split {s : ByteArray} {pre : List UInt8} {c : UInt8} {r : List UInt8} (h : s.data.toList = pre ++ c :: r) : byteAt s pre.length = c.toNat := by
  unfold byteAt
  rw [h]
  simp
theorem size_split {s : ByteArray} {l : List UInt8} (h : s.data.toList = l) : s.size = l.length := by
  rw [← h]; simp
theorem bytes_ext {a b : ByteArray} (h : a.data.toList = b.data.toList) : a = b := by
  obtain ⟨a⟩ := a
  obtain ⟨b⟩ := b
  congr
  exact Array.toList_inj.1 h
theorem extract_list (s : ByteArray) (i j : Nat) : (s.extract i j).data.toList = (s.data.toList.drop i).take (j - i) := by
  simp [ByteArray.data_extract, Array.toList_extract, List.extract]
theorem extract_split {s : ByteArray} {a b c : List UInt8} (h : s.data.toList = a ++ b ++ c) : (s.extract a.length (a.length + b.length)).data.toList = b := by
  rw [extract_list, h, List.append_assoc, List.drop_left, Nat.add_sub_cancel_left, List.take_left]
/-- A word's parts: sign, digits, a point and digits (or none), a suffix that begins with a suffix's byte. -/
structure Word (s : ByteArray) (sg num dn suf : List UInt8) : Prop where
  whole : s.data.toList = sg ++ num ++ dn ++ suf
  sign : sg = [] ∨ sg = [43] ∨ sg = [45]
  digs : ∀ x ∈ num, isDg x.toNat = true
  frac : dn = [] ∨ ∃ ds, dn = 46 :: ds ∧ ∀ x ∈ ds, isDg x.toNat = true
  suff : ∃ c r, suf = c :: r ∧ isSf c.toNat = true
theorem sf_no {c : Nat} (h : isSf c = true) : isDg c = false ∧ isZ c = false ∧ isSg c = false ∧ c ≠ 46 := by
  simp only [isSf, Bool.or_eq_true, beq_iff_eq] at h
  rcases h with ((((((((((h | h) | h) | h) | h) | h) | h) | h) | h) | h) | h) | h <;> subst h <;> decide
theorem dg_no {c : Nat} (h : isDg c = true) : isSg c = false ∧ isSf c = false ∧ c ≠ 46 := by
  simp [isDg] at h
  refine ⟨?_, ?_, by omega⟩
  · simp [isSg]; omega
  · simp [isSf]; omega
def pqFrac (s : ByteArray) (n : Nat) (dn : List UInt8) : ByteArray := if dn = [] then noStr else s.extract (n + 1) (n + dn.length)
theorem pq_word {s : ByteArray} {sg num dn suf : List UInt8} (W : Word s sg num dn suf) :
    pq s = pqTail s (!(sg == [45])) (pqNum s (sg.length + runLen isZ num) (sg.length + num.length)) (pqFrac s (sg.length + num.length) dn) (sg.length + num.length + dn.length) := by
  obtain ⟨hw, hsg, hnum, hdn, c, r, rfl, hc⟩ := W
  obtain ⟨c1, c2, c3, c4⟩ := sf_no hc
  have hsz := size_split hw
  simp at hsz
  -- the first byte behind the number is no digit
  obtain ⟨d, rest, hd, d1, d2⟩ : ∃ d rest, dn ++ c :: r = d :: rest ∧ isDg d.toNat = false ∧ isZ d.toNat = false ∧ isSg d.toNat = false := by
    rcases hdn with rfl | ⟨ds, rfl, _⟩
    · exact ⟨c, r, rfl, c1, c2, c3⟩
    · exact ⟨46, _, rfl, by decide, by decide, by decide⟩
  have hs0 : sgnLen s = sg.length ∧ (!(byteAt s 0 == 45)) = !(sg == [45]) := by
    rcases hsg with rfl | rfl | rfl
    · have : ∃ x y, s.data.toList = [] ++ x :: y ∧ isSg x.toNat = false := by
        cases num with
        | nil => exact ⟨d, rest, by rw [hw, ← hd]; simp, d2.2⟩
        | cons a l => exact ⟨a, _, by rw [hw]; rfl, (dg_no (hnum a (by simp))).1⟩
      obtain ⟨x, y, h1, h2⟩ := this
      have := byteAt_split h1
      simp at this
      refine ⟨by simp [sgnLen, this, h2], ?_⟩
      rw [this]
      simp [isSg] at h2
      simp [h2]
    · have := byteAt_split (pre := []) (c := 43) (r := num ++ dn ++ c :: r) (s := s) (by rw [hw]; simp)
      simp at this
      exact ⟨by simp [sgnLen, this, isSg], by rw [this]; rfl⟩
    · have := byteAt_split (pre := []) (c := 45) (r := num ++ dn ++ c :: r) (s := s) (by rw [hw]; simp)
      simp at this
      exact ⟨by simp [sgnLen, this, isSg], by rw [this]; rfl⟩
  obtain ⟨hs1, hs2⟩ := hs0
  have hz : skip isZ s sg.length = sg.length + runLen isZ num := by
    rw [skip_split (pre := sg) (rest := num ++ (dn ++ c :: r)) (by rw [hw]; simp), hd, runLen_until d2.1]
  have hk := runLen_le isZ num
  have hn : skip isDg s (sg.length + runLen isZ num) = sg.length + num.length := by
    have e : (sg ++ num.take (runLen isZ num)).length = sg.length + runLen isZ num := by simp; omega
    rw [← e, skip_split (rest := num.drop (runLen isZ num) ++ (dn ++ c :: r)) (by rw [hw]; simp [← List.append_assoc]; rw [List.append_assoc sg, List.take_append_drop]), hd, runLen_app (fun x hx => hnum x (List.mem_of_mem_drop hx)), runLen_no d1, e]
    simp
    omega
  unfold pq
  rw [hs1, hs2, hz]
  unfold pqA
  rw [if_neg (by omega), hn]
  unfold pqB
  rw [if_neg (by omega)]
  have hb : byteAt s (sg.length + num.length) = d.toNat := by
    have := byteAt_split (pre := sg ++ num) (c := d) (r := rest) (s := s) (by rw [hw, ← hd]; simp)
    simpa using this
  rcases hdn with rfl | ⟨ds, rfl, hds⟩
  · simp at hd
    obtain ⟨rfl, rfl⟩ := hd
    rw [if_neg (by rw [hb]; exact c4)]
    simp [pqFrac]
  · simp at hd
    obtain ⟨rfl, rfl⟩ := hd
    have hd2 : skip isDg s (sg.length + num.length + 1) = sg.length + num.length + 1 + ds.length := by
      have e : (sg ++ num ++ [46]).length = sg.length + num.length + 1 := by simp; omega
      rw [← e, skip_split (rest := ds ++ c :: r) (by rw [hw]; simp), runLen_app hds, runLen_no c1, e]
      rfl
    rw [if_pos (by rw [hb]; rfl), hd2, if_neg (by simp at hsz; omega)]
    unfold pqFrac
    rw [if_neg (by simp), show (46 :: ds).length = ds.length + 1 from rfl, show sg.length + num.length + (ds.length + 1) = sg.length + num.length + 1 + ds.length by omega]
/-- A suffix of suffix bytes alone is taken whole. -/
theorem tail_word {s : ByteArray} {sg num dn suf : List UInt8} (W : Word s sg num dn suf) (hs : ∀ x ∈ suf, isSf x.toNat = true) (p : Bool) (nm dm : ByteArray) :
    pqTail s p nm dm (sg.length + num.length + dn.length) = ⟨p, s.extract 0 (sg.length + num.length + dn.length), nm, dm, ⟨suf.toArray⟩, true⟩ := by
  have hw := W.whole
  have hsz := size_split hw
  simp at hsz
  have e : (sg ++ num ++ dn).length = sg.length + num.length + dn.length := by simp; omega
  have hf : skip isSf s (sg.length + num.length + dn.length) = s.size := by
    rw [← e, skip_split (rest := suf ++ []) (by rw [hw]; simp), runLen_app hs]
    simp [runLen]; omega
  unfold pqTail
  rw [hf]
  have : sgnOne s s.size = s.size := by unfold sgnOne; rw [byteAt_end (Nat.le_refl _)]; rfl
  rw [this, skip_end (Nat.le_refl _), if_pos rfl]
  congr 1
  apply bytes_ext
  have := extract_split (s := s) (a := sg ++ num ++ dn) (b := suf) (c := []) (by rw [hw]; simp)
  rw [e] at this
  have hsz2 : s.size = sg.length + num.length + dn.length + suf.length := by omega
  rw [hsz2]
  exact this
/-- An exponent with a byte behind it that is no digit. -/
theorem tail_bad {s : ByteArray} {sg num dn ps pw : List UInt8} {c k : UInt8} (W : Word s sg num dn (c :: (ps ++ (pw ++ [k])))) (hp : ps = [] ∧ pw ≠ [] ∨ ps = [43] ∨ ps = [45]) (hpw : ∀ x ∈ pw, isDg x.toNat = true) (hk : isDg k.toNat = false) (p : Bool) (nm dm : ByteArray) :
    (pqTail s p nm dm (sg.length + num.length + dn.length)).ok = false := by
  have hw := W.whole
  have hsz := size_split hw
  simp at hsz
  obtain ⟨c', r', hcr, hc⟩ := W.suff
  injection hcr with h1 h2
  subst h1 h2
  have e : (sg ++ num ++ dn).length = sg.length + num.length + dn.length := by simp; omega
  obtain ⟨x, y, hxy, hx⟩ : ∃ x y, ps ++ (pw ++ [k]) = x :: y ∧ isSf x.toNat = false := by
    rcases hp with ⟨rfl, hne⟩ | rfl | rfl
    · cases pw with
      | nil => exact absurd rfl hne
      | cons a l => exact ⟨a, _, rfl, (dg_no (hpw a (by simp))).2.1⟩
    · exact ⟨43, _, rfl, by decide⟩
    · exact ⟨45, _, rfl, by decide⟩
  have hf : skip isSf s (sg.length + num.length + dn.length) = sg.length + num.length + dn.length + 1 := by
    rw [← e, skip_split (rest := [c] ++ x :: y) (by rw [hw, hxy]; simp), runLen_app (by simpa using hc), runLen_no hx]
    rfl
  have hb : byteAt s (sg.length + num.length + dn.length + 1) = x.toNat := by
    have := byteAt_split (pre := sg ++ num ++ dn ++ [c]) (c := x) (r := y) (s := s) (by rw [hw, hxy]; simp)
    simpa [Nat.add_assoc] using this
  have hg : sgnOne s (sg.length + num.length + dn.length + 1) = sg.length + num.length + dn.length + 1 + ps.length := by
    unfold sgnOne
    rw [hb]
    rcases hp with ⟨rfl, hne⟩ | rfl | rfl
    · cases pw with
      | nil => exact absurd rfl hne
      | cons a l =>
        simp at hxy
        obtain ⟨rfl, _⟩ := hxy
        rw [(dg_no (hpw a (by simp))).1]
        rfl
    · simp at hxy
      obtain ⟨rfl, _⟩ := hxy
      rfl
    · simp at hxy
      obtain ⟨rfl, _⟩ := hxy
      rfl
  have hh : skip isDg s (sg.length + num.length + dn.length + 1 + ps.length) = sg.length + num.length + dn.length + 1 + ps.length + pw.length := by
    have e2 : (sg ++ num ++ dn ++ [c] ++ ps).length = sg.length + num.length + dn.length + 1 + ps.length := by simp; omega
    rw [← e2, skip_split (rest := pw ++ k :: []) (by rw [hw]; simp), runLen_app hpw, runLen_no hk, e2]
    rfl
  unfold pqTail
  rw [hf, hg, hh, if_neg (by omega)]
end Go.Proofs.YtjebnpkebccffaaGreatDoor
