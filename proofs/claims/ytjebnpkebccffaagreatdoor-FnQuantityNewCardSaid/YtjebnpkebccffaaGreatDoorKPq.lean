import Derived.Test.YtjebnpkebccffaaGreatDoorKNum
set_option linter.unusedSimpArgs false
set_option linter.unusedVariables false
set_option linter.unusedSectionVars false
namespace Go.Proofs.YtjebnpkebccffaaGreatDoor
def runLen (p : Nat → Bool) : List UInt8 → Nat
  | [] => 0
  | c :: r => if p c.toNat then runLen p r + 1 else 0
def skip (p : Nat → Bool) (s : ByteArray) (i : Nat) : Nat := i + runLen p (s.data.toList.drop i)
theorem drop_cons (s : ByteArray) (i : Nat) (h : i < s.size) : s.data.toList.drop i = s[i] :: s.data.toList.drop (i + 1) := by
  have h' : i < s.data.toList.length := by simpa using h
  rw [List.drop_eq_getElem_cons h']
  rfl
theorem skip_stop {p : Nat → Bool} {s : ByteArray} {i : Nat} (h : i < s.size) (hp : p (s[i].toNat) = false) : skip p s i = i := by
  unfold skip
  rw [drop_cons s i h]
  simp [runLen, hp]
theorem skip_step {p : Nat → Bool} {s : ByteArray} {i : Nat} (h : i < s.size) (hp : p (s[i].toNat) = true) : skip p s i = skip p s (i + 1) := by
  unfold skip
  rw [drop_cons s i h]
  simp [runLen, hp]
  omega
theorem skip_end {p : Nat → Bool} {s : ByteArray} {i : Nat} (h : s.size ≤ i) : skip p s i = i := by
  unfold skip
  rw [List.drop_eq_nil_of_le (by simpa using h)]
  simp [runLen]
theorem skip_ge (p : Nat → Bool) (s : ByteArray) (i : Nat) : i ≤ skip p s i := Nat.le_add_right _ _
theorem runLen_le (p : Nat → Bool) (l : List UInt8) : runLen p l ≤ l.length := by
  induction l with
  | nil => simp [runLen]
  | cons c r ih => unfold runLen; split <;> simp <;> omega
theorem skip_le {p : Nat → Bool} {s : ByteArray} {i : Nat} (h : i ≤ s.size) : skip p s i ≤ s.size := by
  have := runLen_le p (s.data.toList.drop i)
  unfold skip
  have e : (s.data.toList.drop i).length = s.size - i := by simp [List.length_drop]
  omega
def isZ (c : Nat) : Bool := c == 48
def isDg (c : Nat) : Bool := decide (48 ≤ c) && decide (c ≤ 57)
def isSf (c : Nat) : Bool := c == 101 || c == 69 || c == 105 || c == 110 || c == 117 || c == 109 || c == 107 || c == 75 || c == 77 || c == 71 || c == 84 || c == 80
def isSg (c : Nat) : Bool := c == 43 || c == 45
def byteAt (s : ByteArray) (i : Nat) : Nat := match s.data.toList[i]? with | some c => c.toNat | none => 0
theorem byteAt_get {s : ByteArray} {i : Nat} (h : i < s.size) : byteAt s i = s[i].toNat := by
  have hj' : i < s.data.toList.length := by simpa using h
  unfold byteAt
  rw [List.getElem?_eq_getElem hj']
  rfl
theorem byteAt_end {s : ByteArray} {i : Nat} (h : s.size ≤ i) : byteAt s i = 0 := by
  unfold byteAt
  rw [List.getElem?_eq_none (by simpa using h)]
structure PQ where
  pos : Bool
  value : ByteArray
  num : ByteArray
  denom : ByteArray
  suffix : ByteArray
  ok : Bool
def str0 : ByteArray := ⟨#[48]⟩
def noStr : ByteArray := ⟨#[]⟩
def sgnLen (s : ByteArray) : Nat := if isSg (byteAt s 0) then 1 else 0
def sgnOne (s : ByteArray) (f : Nat) : Nat := if isSg (byteAt s f) then f + 1 else f
def pqTail (s : ByteArray) (p : Bool) (num denom : ByteArray) (a : Nat) : PQ :=
  if skip isDg s (sgnOne s (skip isSf s a)) = s.size then ⟨p, s.extract 0 a, num, denom, s.extract a s.size, true⟩
  else ⟨p, s.extract 0 a, num, denom, noStr, false⟩
def pqNum (s : ByteArray) (z n : Nat) : ByteArray := if n = z then str0 else s.extract z n
def pqB (s : ByteArray) (p : Bool) (z n : Nat) : PQ :=
  if n = s.size then ⟨p, s, s.extract z s.size, noStr, noStr, true⟩ else
  if byteAt s n = 46 then
    if skip isDg s (n + 1) = s.size then ⟨p, s, pqNum s z n, s.extract (n + 1) s.size, noStr, true⟩
    else pqTail s p (pqNum s z n) (s.extract (n + 1) (skip isDg s (n + 1))) (skip isDg s (n + 1))
  else pqTail s p (pqNum s z n) noStr n
def pqA (s : ByteArray) (p : Bool) (z : Nat) : PQ :=
  if z = s.size then ⟨p, str0, str0, noStr, noStr, true⟩ else pqB s p z (skip isDg s z)
def pq (s : ByteArray) : PQ := pqA s (!(byteAt s 0 == 45)) (skip isZ s (sgnLen s))
theorem sgnOne_le {s : ByteArray} {f : Nat} (h : f ≤ s.size) : f ≤ sgnOne s f ∧ sgnOne s f ≤ s.size := by
  unfold sgnOne
  split
  · rename_i hs
    by_cases hf : f < s.size
    · omega
    · rw [byteAt_end (by omega)] at hs; simp [isSg] at hs
  · omega
end Go.Proofs.YtjebnpkebccffaaGreatDoor
namespace Go.Proofs.YtjebnpkebccffaaGreatDoor
structure Word (s : ByteArray) (sg num dn suf : List UInt8) : Prop where
  whole : s.data.toList = sg ++ num ++ dn ++ suf
  sign : sg = [] ∨ sg = [43] ∨ sg = [45]
  digs : ∀ x ∈ num, isDg x.toNat = true
  frac : dn = [] ∨ ∃ ds, dn = 46 :: ds ∧ ∀ x ∈ ds, isDg x.toNat = true
  suff : ∃ c r, suf = c :: r ∧ isSf c.toNat = true
end Go.Proofs.YtjebnpkebccffaaGreatDoor
