import Derived.Test.YtjebnpkebccffaaGreatDoorJSuf
import Derived.Test.YtjebnpkebccffaaGreatDoorJShelf
set_option linter.unusedSimpArgs false
set_option linter.unusedVariables false
set_option linter.unusedSectionVars false
namespace Go.Proofs.YtjebnpkebccffaaGreatDoor
open Go.RowKit
/-! ### suffixHandler.interpret, fastLookup.interpret -/
def fDec : Value := .string ⟨#[68, 101, 99, 105, 109, 97, 108, 83, 73]⟩
def fBin : Value := .string ⟨#[66, 105, 110, 97, 114, 121, 83, 73]⟩
def fExp : Value := .string ⟨#[68, 101, 99, 105, 109, 97, 108, 69, 120, 112, 111, 110, 101, 110, 116]⟩
def IntpRes (w : World) (b x : Int) (f : Value) (ok : Bool) (e : Ending) (w' : World) : Prop :=
  e = .returned (.tuple #[.int .i32 b, .int .i32 x, f, .bool ok]) ∧ Kept (fun _ => False) w w'
theorem Lst.step {w w' : World} {d o r1 r2 r3 : Nat} {l1 l2 tx} (h : Hid (Lst w d o r1 r2 r3 l1 l2 tx)) (hk : Kept (fun _ => False) w w') : Hid (Lst w' d o r1 r2 r3 l1 l2 tx) := h.out.same hk
theorem Suffixer.kept {w w' : World} {d : Nat} (h : Suffixer w d) (hk : Kept (fun _ => False) w w') : Suffixer w' d := by
  obtain ⟨r1, r2, r3, s1, s2, s3, h1, h2⟩ := h
  exact ⟨r1, r2, r3, s1, s2, s3, h1.same hk, h2.same hk⟩
set_option maxRecDepth 100000 in
set_option maxHeartbeats 1000000 in
/-- A suffix of the list by ten. -/
theorem interpret_dec (d : Nat) (s : ByteArray) (w : World) (h : Suffixer w d) (a b : Int) (i : Nat) (hl : lkp (sufS decE) s 0 = some (i, encP (a, b))) :
    Calls Tryz.prog 328 #[.pointer (some ⟨d, 0, none⟩), .string s] w (IntpRes w a b fDec true) := by
  obtain ⟨r1, r2, r3, s1, s2, s3, h1, h2⟩ := h
  have H2 := Lib.hid h2
  have HL := Lib.hid hl
  clear h1 h2 hl
  go_enter Tryz.func328, Tryz.ntmps328
  go_wp2_with fail
  refine (lookup_any d 0 s1 s2 s3 _ _ _ s w H2.out a b true (by rw [HL.out]; exact ⟨rfl, rfl⟩) (fun h => by cases h)).mono ?_
  rintro e w1 ⟨rfl, hk⟩
  go_wp2_with fail
  refine bodyPost_ret (v := .tuple #[.int .i32 a, .int .i32 b, fDec, .bool true]) ?_ rfl ⟨rfl, hk⟩
  simp [results, Tryz.f328, loadVar, go_sem, fDec]
set_option maxRecDepth 100000 in
set_option maxHeartbeats 1000000 in
/-- A suffix of the list by two. -/
theorem interpret_bin (d : Nat) (s : ByteArray) (w : World) (h : Suffixer w d) (a b : Int) (i : Nat) (h0 : lkp (sufS decE) s 0 = none) (hl : lkp (sufS binE) s 0 = some (i, encP (a, b))) :
    Calls Tryz.prog 328 #[.pointer (some ⟨d, 0, none⟩), .string s] w (IntpRes w a b fBin true) := by
  obtain ⟨r1, r2, r3, s1, s2, s3, h1, h2⟩ := h
  have H1 := Lib.hid h1
  have H2 := Lib.hid h2
  have HL := Lib.hid hl
  have HN := Lib.hid h0
  clear h1 h2 hl h0
  go_enter Tryz.func328, Tryz.ntmps328
  go_wp2_with fail
  refine (lookup_any d 0 s1 s2 s3 _ _ _ s w H2.out 0 0 false (by rw [HN.out]; exact ⟨rfl, rfl⟩) (fun h => ⟨rfl, rfl⟩)).mono ?_
  rintro e w1 ⟨rfl, hk⟩
  have K1 := Lib.hid hk
  clear hk
  go_wp2_with fail
  refine (lookup_any d 3 r1 r2 r3 _ _ _ s w1 (H1.out.same K1.out) a b true (by rw [HL.out]; exact ⟨rfl, rfl⟩) (fun h => by cases h)).mono ?_
  rintro e w2 ⟨rfl, hk⟩
  go_wp2_with fail
  refine bodyPost_ret (v := .tuple #[.int .i32 a, .int .i32 b, fBin, .bool true]) ?_ rfl ⟨rfl, K1.out.same hk⟩
  simp [results, Tryz.f328, loadVar, go_sem, fBin]
set_option maxRecDepth 100000 in
set_option maxHeartbeats 1000000 in
/-- A suffix of no list that is no exponent either. -/
theorem interpret_none (d : Nat) (s : ByteArray) (w : World) (h : Suffixer w d) (hs : s.size ≤ 281474976710656) (h0 : lkp (sufS decE) s 0 = none) (hl : lkp (sufS binE) s 0 = none) (hx : ∀ hlt : 0 < s.size, s.size = 1 ∨ s[0].toNat ≠ 69 ∧ s[0].toNat ≠ 101) :
    Calls Tryz.prog 328 #[.pointer (some ⟨d, 0, none⟩), .string s] w (IntpRes w 0 0 fExp false) := by
  obtain ⟨r1, r2, r3, s1, s2, s3, h1, h2⟩ := h
  have H1 := Lib.hid h1
  have H2 := Lib.hid h2
  have HL := Lib.hid hl
  have HN := Lib.hid h0
  have HX := Lib.hid hx
  clear h1 h2 hl h0 hx
  go_enter Tryz.func328, Tryz.ntmps328
  go_wp2_with fail
  refine (lookup_any d 0 s1 s2 s3 _ _ _ s w H2.out 0 0 false (by rw [HN.out]; exact ⟨rfl, rfl⟩) (fun h => ⟨rfl, rfl⟩)).mono ?_
  rintro e w1 ⟨rfl, hk⟩
  have K1 := Lib.hid hk
  clear hk
  go_wp2_with fail
  refine (lookup_any d 3 r1 r2 r3 _ _ _ s w1 (H1.out.same K1.out) 0 0 false (by rw [HL.out]; exact ⟨rfl, rfl⟩) (fun h => ⟨rfl, rfl⟩)).mono ?_
  rintro e w2 ⟨rfl, hk⟩
  have K2 := Lib.hid (K1.out.same hk)
  clear hk
  by_cases hz : 1 < s.size
  · have hx := HX.out (by omega)
    have g1 : ((s[0].toNat : Int) == 69) = false := beqF (by omega)
    have g2 : ((s[0].toNat : Int) == 101) = false := beqF (by omega)
    have g3 : decide ((1 : Int) < (s.size : Int)) = true := decT (by omega)
    go_wp2_with fail
    refine bodyPost_ret (v := .tuple #[.int .i32 0, .int .i32 0, fExp, .bool false]) ?_ rfl ⟨rfl, K2.out⟩
    simp [results, Tryz.f328, loadVar, go_sem, fExp]
  · have g3 : decide ((1 : Int) < (s.size : Int)) = false := decF (by omega)
    go_wp2_with fail
    refine bodyPost_ret (v := .tuple #[.int .i32 0, .int .i32 0, fExp, .bool false]) ?_ rfl ⟨rfl, K2.out⟩
    simp [results, Tryz.f328, loadVar, go_sem, fExp]
set_option maxRecDepth 100000 in
set_option maxHeartbeats 1000000 in
/-- An exponent: what ParseInt says of what stands behind the letter. -/
theorem interpret_exp (d : Nat) (s : ByteArray) (w : World) (h : Suffixer w d) (hs : s.size ≤ 281474976710656) (h0 : lkp (sufS decE) s 0 = none) (hl : lkp (sufS binE) s 0 = none) (h1s : 1 < s.size) (hx : s[0].toNat = 69 ∨ s[0].toNat = 101) (n : Int) (ok : Bool)
    (hP : ∀ w1, Kept (fun _ => False) w w1 → Calls Tryz.prog 51 #[.string (s.extract 1 s.size), .int .i64 10, .int .i64 64] w1 fun e w' => (∃ er, e = .returned (.tuple #[.int .i64 n, er]) ∧ (ok = true → er = .nilIface) ∧ (ok = false → ∃ t v, er = .iface t v)) ∧ Kept (fun _ => False) w1 w') (b x : Int) (hb : ok = true → b = 10 ∧ x = IntKind.i32.wrap n) (hb' : ok = false → b = 0 ∧ x = 0) :
    Calls Tryz.prog 328 #[.pointer (some ⟨d, 0, none⟩), .string s] w (IntpRes w b x fExp ok) := by
  obtain ⟨r1, r2, r3, s1, s2, s3, h1, h2⟩ := h
  have H1 := Lib.hid h1
  have H2 := Lib.hid h2
  have HL := Lib.hid hl
  have HN := Lib.hid h0
  have HP := Lib.hid hP
  have g3 : decide ((1 : Int) < (s.size : Int)) = true := decT (by omega)
  have hn : ∀ (t : TypeId) (v : Value) (w : World), (binOp .neq 68 (.iface t v) .nilIface).run Tryz.prog w = .ok (.bool true) w := fun t v w => by kernel_rfl
  have hz0 : 0 < s.size := by omega
  generalize hc : s[0].toNat = c at hx
  have HC := Lib.hid hc
  clear h1 h2 hl h0 hP
  go_enter Tryz.func328, Tryz.ntmps328
  go_wp2_with fail
  refine (lookup_any d 0 s1 s2 s3 _ _ _ s w H2.out 0 0 false (by rw [HN.out]; exact ⟨rfl, rfl⟩) (fun h => ⟨rfl, rfl⟩)).mono ?_
  rintro e w1 ⟨rfl, hk⟩
  have K1 := Lib.hid hk
  clear hk
  go_wp2_with fail
  refine (lookup_any d 3 r1 r2 r3 _ _ _ s w1 (H1.out.same K1.out) 0 0 false (by rw [HL.out]; exact ⟨rfl, rfl⟩) (fun h => ⟨rfl, rfl⟩)).mono ?_
  rintro e w2 ⟨rfl, hk⟩
  have K2 := Lib.hid (K1.out.same hk)
  clear hk
  have g1 : ((s[0].toNat : Int) == 69) = (((c : Nat) : Int) == 69) := by rw [HC.out]
  have g2 : ((s[0].toNat : Int) == 101) = (((c : Nat) : Int) == 101) := by rw [HC.out]
  rcases hx with hx | hx
  · subst hx
    go_wp2_with fail
    refine (HP.out w2 K2.out).mono ?_
    rintro e w3 ⟨⟨er, rfl, e1, e2⟩, hk⟩
    cases ok with
    | true =>
      obtain rfl := e1 rfl
      obtain ⟨rfl, rfl⟩ := hb rfl
      go_wp2_with fail
      refine bodyPost_ret (v := .tuple #[.int .i32 10, .int .i32 (IntKind.i32.wrap n), fExp, .bool true]) ?_ rfl ⟨rfl, K2.out.same hk⟩
      simp [results, Tryz.f328, loadVar, go_sem, fExp]
      rw [IntKind.wrap_i32]; unfold wrap32; omega
    | false =>
      obtain ⟨t, v, rfl⟩ := e2 rfl
      obtain ⟨rfl, rfl⟩ := hb' rfl
      go_wp2_with fail
      refine bodyPost_ret (v := .tuple #[.int .i32 0, .int .i32 0, fExp, .bool false]) ?_ rfl ⟨rfl, K2.out.same hk⟩
      simp [results, Tryz.f328, loadVar, go_sem, fExp]
  · subst hx
    go_wp2_with fail
    refine (HP.out w2 K2.out).mono ?_
    rintro e w3 ⟨⟨er, rfl, e1, e2⟩, hk⟩
    cases ok with
    | true =>
      obtain rfl := e1 rfl
      obtain ⟨rfl, rfl⟩ := hb rfl
      go_wp2_with fail
      refine bodyPost_ret (v := .tuple #[.int .i32 10, .int .i32 (IntKind.i32.wrap n), fExp, .bool true]) ?_ rfl ⟨rfl, K2.out.same hk⟩
      simp [results, Tryz.f328, loadVar, go_sem, fExp]
      rw [IntKind.wrap_i32]; unfold wrap32; omega
    | false =>
      obtain ⟨t, v, rfl⟩ := e2 rfl
      obtain ⟨rfl, rfl⟩ := hb' rfl
      go_wp2_with fail
      refine bodyPost_ret (v := .tuple #[.int .i32 0, .int .i32 0, fExp, .bool false]) ?_ rfl ⟨rfl, K2.out.same hk⟩
      simp [results, Tryz.f328, loadVar, go_sem, fExp]
/-! ### fastLookup.interpret -/
theorem build157' (a : Option Addr) (w : World) : (Instr.build 157 #[(0, .pointer a)]).run Tryz.prog w = .ok (.agg #[.pointer a]) w := run_build w 157 _ _ (by kernel_rfl)
set_option maxRecDepth 100000 in
set_option maxHeartbeats 1000000 in
/-- A suffix that is none of the seven: the handler's answer. -/
theorem fast_slow (d : Nat) (s : ByteArray) (w : World) (b x : Int) (f : Value) (ok : Bool) (h : ∀ w1, Kept (fun _ => False) w w1 → Calls Tryz.prog 328 #[.pointer (some ⟨d, 0, none⟩), .string s] w1 (IntpRes w1 b x f ok))
    (n0 : s.toList.isEmpty = false) (n1 : (s.toList == [110]) = false) (n2 : (s.toList == [117]) = false) (n3 : (s.toList == [109]) = false) (n4 : (s.toList == [107]) = false) (n5 : (s.toList == [77]) = false) (n6 : (s.toList == [71]) = false) :
    Calls Tryz.prog 331 #[.agg #[.pointer (some ⟨d, 0, none⟩)], .string s] w (IntpRes w b x f ok) := by
  have k1 : Kept (fun _ => False) w (w.alloc (.cells #[.pointer (some ⟨d, 0, none⟩)] 157)) := (Kept.refl _ _).alloc _
  have HC := Lib.hid (h _ k1)
  have K1 := Lib.hid k1
  have c0 : (w.alloc (.cells #[.pointer (some ⟨d, 0, none⟩)] 157)).cell? ⟨w.heap.size, 0, none⟩ = some (.pointer (some ⟨d, 0, none⟩)) := by rw [cell_of (heap_alloc_new _ _)]; rfl
  clear h k1
  go_enter Tryz.func331, Tryz.ntmps331
  go_wp2_with fail
  refine HC.out.mono ?_
  rintro e w1 ⟨rfl, hk⟩
  go_wp2_with fail
  refine bodyPost_ret (v := .tuple #[.int .i32 b, .int .i32 x, f, .bool ok]) ?_ rfl ⟨rfl, K1.out.same hk⟩
  simp [results, Tryz.f331, loadVar, go_sem]
set_option maxRecDepth 100000 in
set_option maxHeartbeats 1000000 in
/-- One of the seven. -/
theorem fast_hit (d : Nat) (w : World) (s : ByteArray) (x : Int) (hs : (s, x) ∈ ([(⟨#[]⟩, 0), (⟨#[110]⟩, -9), (⟨#[117]⟩, -6), (⟨#[109]⟩, -3), (⟨#[107]⟩, 3), (⟨#[77]⟩, 6), (⟨#[71]⟩, 9)] : List (ByteArray × Int))) :
    Calls Tryz.prog 331 #[.agg #[.pointer (some ⟨d, 0, none⟩)], .string s] w (IntpRes w 10 x fDec true) := by
  have k1 : Kept (fun _ => False) w (w.alloc (.cells #[.pointer (some ⟨d, 0, none⟩)] 157)) := (Kept.refl _ _).alloc _
  have K1 := Lib.hid k1
  clear k1
  simp only [List.mem_cons, List.not_mem_nil, or_false, Prod.mk.injEq] at hs
  rcases hs with ⟨rfl, rfl⟩ | ⟨rfl, rfl⟩ | ⟨rfl, rfl⟩ | ⟨rfl, rfl⟩ | ⟨rfl, rfl⟩ | ⟨rfl, rfl⟩ | ⟨rfl, rfl⟩
  all_goals
    go_enter Tryz.func331, Tryz.ntmps331
    go_wp2_with fail
    refine bodyPost_ret (v := .tuple #[.int .i32 10, .int .i32 _, fDec, .bool true]) ?_ rfl ⟨rfl, K1.out⟩
    simp [results, Tryz.f331, loadVar, go_sem, fDec]
end Go.Proofs.YtjebnpkebccffaaGreatDoor
namespace Go.Proofs.YtjebnpkebccffaaGreatDoor
open Go.RowKit
/-! ### constructBytes from the lists -/
def ConsRes (w : World) (t : ByteArray) (e : Ending) (w' : World) : Prop := ∃ v, e = .returned (.tuple #[v, .bool true]) ∧ BytesAt w' v t ∧ Kept (fun _ => False) w w'
set_option maxRecDepth 100000 in
set_option maxHeartbeats 1000000 in
theorem lconstruct (d o r1 r2 r3 : Nat) (l1 : List (ByteArray × Value)) (l2 : List ((Int × Int) × Value)) (tx : List ((Int × Int) × ByteArray)) (a b : Int) (t : ByteArray) (w : World) (h : Lst w d o r1 r2 r3 l1 l2 tx) (hl : lkT tx (a, b) = some t) :
    Calls Tryz.prog 329 #[.pointer (some ⟨d, o, none⟩), .int .i32 a, .int .i32 b] w (ConsRes w t) := by
  have hc := h.c2
  obtain ⟨l3, m3, R3⟩ := h.m3
  obtain ⟨j, v, hv1, hv2⟩ := R3.look (a, b) hl 0
  have hk := run_look encP 148 155 57 Tryz.und148 keyP w r3 l3 m3 (a, b) (.slice none 0 0) (zero57 w)
  rw [hv1] at hk
  simp only [encP, Option.map_some, Option.getD_some, Option.isSome_some] at hk
  have HV := Lib.hid hv2
  have q1 := fun a b w => build155 a b w
  clear h m3 R3 hv1 hv2
  go_enter Tryz.func329, Tryz.ntmps329
  go_wp2_with fail
  go_ret2
  exact ⟨v, rfl, HV.out, Kept.refl _ _⟩
set_option maxRecDepth 100000 in
set_option maxHeartbeats 1000000 in
theorem construct_dec (d : Nat) (a b : Int) (t : ByteArray) (w : World) (h : Suffixer w d) (hl : lkT (sufT decE) (a, b) = some t) :
    Calls Tryz.prog 327 #[.pointer (some ⟨d, 0, none⟩), .int .i32 a, .int .i32 b, fDec] w (ConsRes w t) := by
  obtain ⟨r1, r2, r3, s1, s2, s3, h1, h2⟩ := h
  have HC := Lib.hid (lconstruct d 0 s1 s2 s3 _ _ _ a b t w h2 hl)
  clear h1 h2 hl
  unfold fDec
  go_enter Tryz.func327, Tryz.ntmps327
  go_wp2_with fail
  refine HC.out.mono ?_
  rintro e w1 ⟨v, rfl, hb, hk⟩
  go_wp2_with fail
  go_ret2
  exact ⟨v, rfl, hb, hk⟩
set_option maxRecDepth 100000 in
set_option maxHeartbeats 1000000 in
theorem construct_bin (d : Nat) (a b : Int) (t : ByteArray) (w : World) (h : Suffixer w d) (hl : lkT (sufT binE) (a, b) = some t) :
    Calls Tryz.prog 327 #[.pointer (some ⟨d, 0, none⟩), .int .i32 a, .int .i32 b, fBin] w (ConsRes w t) := by
  obtain ⟨r1, r2, r3, s1, s2, s3, h1, h2⟩ := h
  have HC := Lib.hid (lconstruct d 3 r1 r2 r3 _ _ _ a b t w h1 hl)
  clear h1 h2 hl
  unfold fBin
  go_enter Tryz.func327, Tryz.ntmps327
  go_wp2_with fail
  refine HC.out.mono ?_
  rintro e w1 ⟨v, rfl, hb, hk⟩
  go_wp2_with fail
  go_ret2
  exact ⟨v, rfl, hb, hk⟩
theorem m_cons (d : Nat) (w : World) : (Go.method 525 157 (.agg #[.pointer (some ⟨d, 0, none⟩)]) "pub-stockroom/pub/apimachinery/pkg/api/resource.constructBytes").run Tryz.prog w = .ok (327, .pointer (some ⟨d, 0, none⟩)) w := by kernel_rfl
theorem m_intp (d : Nat) (w : World) : (Go.method 525 157 (.agg #[.pointer (some ⟨d, 0, none⟩)]) "pub-stockroom/pub/apimachinery/pkg/api/resource.interpret").run Tryz.prog w = .ok (331, .agg #[.pointer (some ⟨d, 0, none⟩)]) w := by kernel_rfl
theorem lk_Mi : lkT (sufT binE) (2, 20) = some ⟨#[77, 105]⟩ := by kernel_rfl
theorem lk_Gi : lkp (sufS decE) ⟨#[71, 105]⟩ 0 = none ∧ lkp (sufS binE) ⟨#[71, 105]⟩ 0 = some (2, encP (2, 30)) := ⟨by kernel_rfl, by kernel_rfl⟩
end Go.Proofs.YtjebnpkebccffaaGreatDoor
