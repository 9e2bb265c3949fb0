import Derived.Test.YtjebnpkebccffaaGreatDoorJIsw
import Derived.Test.YtjebnpkebccffaaGreatDoorJQwr
set_option linter.unusedSimpArgs false
set_option linter.unusedVariables false
set_option linter.unusedSectionVars false
namespace Go.Proofs.YtjebnpkebccffaaGreatDoor
open Go.RowKit
/-! ### QuantityKind of a text that is no quantity -/
def KindRes (w : World) (e : Ending) (w' : World) : Prop := (∃ k : Int, e = .returned (.int .i64 k) ∧ k ≠ 0) ∧ Kept (fun _ => False) w w'
set_option maxRecDepth 100000 in
set_option maxHeartbeats 1000000 in
theorem Kind_of (s : ByteArray) (w : World) (ev : Value) (h : Calls Tryz.prog 27 #[.string s] w (PErr w ev)) (hf : ∀ w1, Kept (fun _ => False) w w1 → Calls Tryz.prog 28 #[ev] w1 fun e w' => (∃ k : Int, e = .returned (.int .i64 k) ∧ k ≠ 0) ∧ w1 = w') :
    Calls Tryz.prog 10 #[.string s] w (KindRes w) := by
  have H := Lib.hid h
  have HF := Lib.hid hf
  clear h hf
  go_enter Tryz.func10, Tryz.ntmps10
  go_wp2_with fail
  refine H.out.mono ?_
  rintro e w1 ⟨rfl, hk⟩
  have k2 : Kept (fun _ => False) w (w1.alloc (.cells zQ 66)) := hk.alloc _
  have HF2 := Lib.hid (HF.out _ k2)
  have K2 := Lib.hid k2
  clear hk k2 HF
  simp only [zQ] at HF2 K2 ⊢
  go_wp2_with fail
  refine HF2.out.mono ?_
  rintro e w2 ⟨⟨k, rfl, hk⟩, rfl⟩
  go_wp2_with fail
  go_ret
  exact ⟨⟨k, rfl, hk⟩, K2.out⟩
theorem Kind_format (s : ByteArray) (hs : s.size ≤ 2147483647) (w : World) (a b c : Addr) (he : Errs w a b c) (h : (pq s).ok = false) (hne : s.size ≠ 0) : Calls Tryz.prog 10 #[.string s] w (KindRes w) :=
  Kind_of s w _ (ParseQ_format s hs w a he.g0 h hne) (fun w1 hk => (fault_format a b c w1 (he.kept hk)).mono (fun _ _ h => ⟨⟨1, h.1, by decide⟩, h.2⟩))
theorem Kind_suffix (s : ByteArray) (hs : s.size ≤ 2147483647) (w : World) (a b c : Addr) (he : Errs w a b c) (p : Bool) (v n d f : ByteArray) (h : pq s = ⟨p, v, n, d, f, true⟩) (hne : s.size ≠ 0) (hs0 : (s.toList == [48]) = false)
    (hI : ∀ w1 dd, Suffixer w1 dd → Kept (fun _ => False) w w1 → ∃ b x fm, Calls Tryz.prog 331 #[.agg #[.pointer (some ⟨dd, 0, none⟩)], .string f] w1 (IntpRes w1 b x fm false)) : Calls Tryz.prog 10 #[.string s] w (KindRes w) :=
  Kind_of s w _ (ParseQ_suffix s hs w b _ he.g0 he.g1 p v n d f h hne hs0 hI) (fun w1 hk => (fault_suffix a b c w1 (he.kept hk)).mono (fun _ _ h => ⟨⟨3, h.1, by decide⟩, h.2⟩))
end Go.Proofs.YtjebnpkebccffaaGreatDoor
namespace Go.Proofs.YtjebnpkebccffaaGreatDoor
open Go.RowKit
/-! ### The suffixes with a k behind them are refused -/
theorem bad_lk : ∀ f ∈ badS, lkp (sufS decE) f 0 = none ∧ lkp (sufS binE) f 0 = none := by
  intro f hf
  simp only [badS, List.mem_cons, List.not_mem_nil, or_false] at hf
  rcases hf with rfl | rfl | rfl | rfl | rfl | rfl | rfl | rfl | rfl | rfl | rfl | rfl | rfl
  all_goals exact ⟨by kernel_rfl, by kernel_rfl⟩
def NotFast (s : ByteArray) : Prop := s.toList.isEmpty = false ∧ (s.toList == [110]) = false ∧ (s.toList == [117]) = false ∧ (s.toList == [109]) = false ∧ (s.toList == [107]) = false ∧ (s.toList == [77]) = false ∧ (s.toList == [71]) = false
theorem bad_nf : ∀ f ∈ badS, NotFast f := by
  intro f hf
  simp only [badS, List.mem_cons, List.not_mem_nil, or_false] at hf
  rcases hf with rfl | rfl | rfl | rfl | rfl | rfl | rfl | rfl | rfl | rfl | rfl | rfl | rfl
  all_goals
    unfold NotFast
    rw [ByteArray.toList_eq]
    exact ⟨rfl, rfl, rfl, rfl, rfl, rfl, rfl⟩
theorem bad_e : ∀ f ∈ badS, (∃ c, f.data.toList.head? = some c ∧ c.toNat ≠ 69 ∧ c.toNat ≠ 101) ∨ f = ⟨#[69, 107]⟩ ∨ f = ⟨#[69, 105, 107]⟩ := by
  intro f hf
  simp only [badS, List.mem_cons, List.not_mem_nil, or_false] at hf
  rcases hf with rfl | rfl | rfl | rfl | rfl | rfl | rfl | rfl | rfl | rfl | rfl | rfl | rfl
  all_goals first
    | exact Or.inl ⟨_, rfl, by decide, by decide⟩
    | exact Or.inr (Or.inl rfl)
    | exact Or.inr (Or.inr rfl)
theorem exp_bad (d : Nat) (s : ByteArray) (w : World) (h : Suffixer w d) (hs : s.size ≤ 281474976710656) (h0 : lkp (sufS decE) s 0 = none) (hl : lkp (sufS binE) s 0 = none) (h1s : 1 < s.size) (hx : s[0].toNat = 69 ∨ s[0].toNat = 101) (tp : TypeId) (pe : Value) (hv : w.cell? ⟨8, 0, none⟩ = some (.iface tp pe)) (hpi : Lib.parseIntB 64 (s.extract 1 s.size).data.toList = Lib.parseIntB 64 []) :
    Calls Tryz.prog 328 #[.pointer (some ⟨d, 0, none⟩), .string s] w (IntpRes w 0 0 fExp false) :=
  interpret_exp d s w h hs h0 hl h1s hx 0 false (fun w1 hk => (Tryz.strconv_ParseInt_10_at64_none (s.extract 1 s.size) (by rw [ByteArray.size_extract]; omega) hpi _ w1 (cell_same hk hv) (Or.inr ⟨tp, pe, rfl⟩)).mono (fun e w' h => by
    obtain ⟨N, rfl, _, _, hb⟩ := h
    exact ⟨⟨_, rfl, (fun h => nomatch h), (fun _ => ⟨_, _, rfl⟩)⟩, Kept.ofBelow hb _⟩)) 0 0 (fun h => by cases h) (fun _ => ⟨rfl, rfl⟩)
theorem bad_interp (f : ByteArray) (hf : f ∈ badS) (d : Nat) (w : World) (h : Suffixer w d) (tp : TypeId) (pe : Value) (hv : w.cell? ⟨8, 0, none⟩ = some (.iface tp pe)) :
    Calls Tryz.prog 331 #[.agg #[.pointer (some ⟨d, 0, none⟩)], .string f] w (IntpRes w 0 0 fExp false) := by
  obtain ⟨h0, hl⟩ := bad_lk f hf
  obtain ⟨n0, n1, n2, n3, n4, n5, n6⟩ := bad_nf f hf
  refine fast_slow d f w 0 0 fExp false (fun w1 hk => ?_) n0 n1 n2 n3 n4 n5 n6
  rcases bad_e f hf with ⟨c, hc, e1, e2⟩ | rfl | rfl
  · refine interpret_none d f w1 (h.kept hk) ?_ h0 hl (fun hlt => Or.inr ?_)
    · have : ∀ f ∈ badS, f.size ≤ 3 := by
        intro f hf
        simp only [badS, List.mem_cons, List.not_mem_nil, or_false] at hf
        rcases hf with rfl | rfl | rfl | rfl | rfl | rfl | rfl | rfl | rfl | rfl | rfl | rfl | rfl
        all_goals decide
      exact Nat.le_trans (this f hf) (by omega)
    · have e : f[0] = c := by
        have hl' : 0 < f.data.toList.length := by simpa using hlt
        rw [List.head?_eq_getElem?, List.getElem?_eq_getElem hl'] at hc
        exact Option.some.inj hc
      rw [e]
      exact ⟨e1, e2⟩
  · exact exp_bad d _ w1 (h.kept hk) (by decide) h0 hl (by decide) (Or.inl rfl) tp pe (cell_same hk hv) (by rfl)
  · exact exp_bad d _ w1 (h.kept hk) (by decide) h0 hl (by decide) (Or.inl rfl) tp pe (cell_same hk hv) (by rfl)
/-- QuantityKind of a word with a suffix and a k behind it. -/
theorem Kind_strange (q : QW) (hq : QRight q) (hp : q.kind ≠ 2 ∨ q.place ≠ 0) (hs : (qwrite q ++ kStr).size ≤ 2147483647) (w : World) (a b c : Addr) (he : Errs w a b c) (tp : TypeId) (pe : Value) (hv : w.cell? ⟨8, 0, none⟩ = some (.iface tp pe)) :
    Calls Tryz.prog 10 #[.string (qwrite q ++ kStr)] w (KindRes w) := by
  have hne : (qwrite q ++ kStr).size ≠ 0 := by rw [ByteArray.size_append]; have : kStr.size = 1 := rfl; omega
  rcases strange_word hq hp with h | ⟨p, v, n, d, f, h, hf⟩
  · exact Kind_format _ hs w a b c he h hne
  · refine Kind_suffix _ hs w a b c he p v n d f h hne ?_ (fun w1 dd hsx hk => ⟨0, 0, fExp, bad_interp f hf dd w1 hsx tp pe (cell_same hk hv)⟩)
    have h0 : (pq (⟨#[48]⟩ : ByteArray)).suffix = noStr := by kernel_rfl
    have := toList_ne (s := qwrite q ++ kStr) (t := ⟨#[48]⟩) (fun e => by
      rw [e] at h
      rw [h] at h0
      have hh : f = noStr := h0
      rw [hh] at hf
      exact absurd hf (by
        intro hm
        simp only [badS, List.mem_cons, List.not_mem_nil, or_false] at hm
        rcases hm with h | h | h | h | h | h | h | h | h | h | h | h | h
        all_goals exact absurd h (by decide)))
    rw [ByteArray.toList_eq ⟨#[48]⟩] at this
    exact this
/-- QuantityKind of a text with a byte that no quantity has. -/
theorem Kind_byte (s : ByteArray) (hs : s.size ≤ 2147483647) (i : Nat) (hi : i < s.size) (hq : isQ s[i].toNat = false) (w : World) (a b c : Addr) (he : Errs w a b c) : Calls Tryz.prog 10 #[.string s] w (KindRes w) := by
  refine Kind_format s hs w a b c he ?_ (by omega)
  cases h : (pq s).ok with
  | false => rfl
  | true =>
    have := pq_all h i hi
    rw [hq] at this
    cases this
end Go.Proofs.YtjebnpkebccffaaGreatDoor
