import Derived.Test.YtjebnpkebccffaaGreatDoorKSuf
import Derived.Test.YtjebnpkebccffaaGreatDoorKShelf
set_option linter.unusedSimpArgs false
set_option linter.unusedVariables false
set_option linter.unusedSectionVars false
namespace Go.Proofs.YtjebnpkebccffaaGreatDoor
open Go.RowKit
def fDec : Value := .string ⟨#[68, 101, 99, 105, 109, 97, 108, 83, 73]⟩
def fBin : Value := .string ⟨#[66, 105, 110, 97, 114, 121, 83, 73]⟩
def fExp : Value := .string ⟨#[68, 101, 99, 105, 109, 97, 108, 69, 120, 112, 111, 110, 101, 110, 116]⟩
def IntpRes (w : World) (b x : Int) (f : Value) (ok : Bool) (e : Ending) (w' : World) : Prop :=
  e = .returned (.tuple #[.int .i32 b, .int .i32 x, f, .bool ok]) ∧ Kept (fun _ => False) w w'
theorem Lst.step {w w' : World} {d o r1 r2 r3 : Nat} {l1 l2 tx} (h : Hid (Lst w d o r1 r2 r3 l1 l2 tx)) (hk : Kept (fun _ => False) w w') : Hid (Lst w' d o r1 r2 r3 l1 l2 tx) := h.out.same hk
theorem Suffixer.kept {w w' : World} {d : Nat} (h : Suffixer w d) (hk : Kept (fun _ => False) w w') : Suffixer w' d := by
  obtain ⟨r1, r2, r3, s1, s2, s3, h1, h2⟩ := h
  exact ⟨r1, r2, r3, s1, s2, s3, h1.same hk, h2.same hk⟩
set_option maxRecDepth 100000 in
set_option maxHeartbeats 1000000 in
theorem interpret_bin (d : Nat) (s : ByteArray) (w : World) (h : Suffixer w d) (a b : Int) (i : Nat) (h0 : lkp (sufS decE) s 0 = none) (hl : lkp (sufS binE) s 0 = some (i, encP (a, b))) :
    Calls Tryz.prog 328 #[.pointer (some ⟨d, 0, none⟩), .string s] w (IntpRes w a b fBin true) := by
  obtain ⟨r1, r2, r3, s1, s2, s3, h1, h2⟩ := h
  have H1 := Lib.hid h1
  have H2 := Lib.hid h2
  have HL := Lib.hid hl
  have HN := Lib.hid h0
  clear h1 h2 hl h0
  go_enter Tryz.func328, Tryz.ntmps328
  go_wp2_with fail
  refine (lookup_any d 0 s1 s2 s3 _ _ _ s w H2.out 0 0 false (by rw [HN.out]; exact ⟨rfl, rfl⟩) (fun h => ⟨rfl, rfl⟩)).mono ?_
  rintro e w1 ⟨rfl, hk⟩
  have K1 := Lib.hid hk
  clear hk
  go_wp2_with fail
  refine (lookup_any d 3 r1 r2 r3 _ _ _ s w1 (H1.out.same K1.out) a b true (by rw [HL.out]; exact ⟨rfl, rfl⟩) (fun h => by cases h)).mono ?_
  rintro e w2 ⟨rfl, hk⟩
  go_wp2_with fail
  refine bodyPost_ret (v := .tuple #[.int .i32 a, .int .i32 b, fBin, .bool true]) ?_ rfl ⟨rfl, K1.out.same hk⟩
  simp [results, Tryz.f328, loadVar, go_sem, fBin]
set_option maxRecDepth 100000 in
set_option maxHeartbeats 1000000 in
theorem fast_slow (d : Nat) (s : ByteArray) (w : World) (b x : Int) (f : Value) (ok : Bool) (h : ∀ w1, Kept (fun _ => False) w w1 → Calls Tryz.prog 328 #[.pointer (some ⟨d, 0, none⟩), .string s] w1 (IntpRes w1 b x f ok))
    (n0 : s.toList.isEmpty = false) (n1 : (s.toList == [110]) = false) (n2 : (s.toList == [117]) = false) (n3 : (s.toList == [109]) = false) (n4 : (s.toList == [107]) = false) (n5 : (s.toList == [77]) = false) (n6 : (s.toList == [71]) = false) :
    Calls Tryz.prog 331 #[.agg #[.pointer (some ⟨d, 0, none⟩)], .string s] w (IntpRes w b x f ok) := by
  have k1 : Kept (fun _ => False) w (w.alloc (.cells #[.pointer (some ⟨d, 0, none⟩)] 157)) := (Kept.refl _ _).alloc _
  have HC := Lib.hid (h _ k1)
  have K1 := Lib.hid k1
  have c0 : (w.alloc (.cells #[.pointer (some ⟨d, 0, none⟩)] 157)).cell? ⟨w.heap.size, 0, none⟩ = some (.pointer (some ⟨d, 0, none⟩)) := by rw [cell_of (heap_alloc_new _ _)]; rfl
  clear h k1
  go_enter Tryz.func331, Tryz.ntmps331
  go_wp2_with fail
  refine HC.out.mono ?_
  rintro e w1 ⟨rfl, hk⟩
  go_wp2_with fail
  refine bodyPost_ret (v := .tuple #[.int .i32 b, .int .i32 x, f, .bool ok]) ?_ rfl ⟨rfl, K1.out.same hk⟩
  simp [results, Tryz.f331, loadVar, go_sem]
end Go.Proofs.YtjebnpkebccffaaGreatDoor
namespace Go.Proofs.YtjebnpkebccffaaGreatDoor
open Go.RowKit
def ConsRes (w : World) (t : ByteArray) (e : Ending) (w' : World) : Prop := ∃ v, e = .returned (.tuple #[v, .bool true]) ∧ BytesAt w' v t ∧ Kept (fun _ => False) w w'
set_option maxRecDepth 100000 in
set_option maxHeartbeats 1000000 in
theorem lconstruct (d o r1 r2 r3 : Nat) (l1 : List (ByteArray × Value)) (l2 : List ((Int × Int) × Value)) (tx : List ((Int × Int) × ByteArray)) (a b : Int) (t : ByteArray) (w : World) (h : Lst w d o r1 r2 r3 l1 l2 tx) (hl : lkT tx (a, b) = some t) :
    Calls Tryz.prog 329 #[.pointer (some ⟨d, o, none⟩), .int .i32 a, .int .i32 b] w (ConsRes w t) := by
  have hc := h.c2
  obtain ⟨l3, m3, R3⟩ := h.m3
  obtain ⟨j, v, hv1, hv2⟩ := R3.look (a, b) hl 0
  have hk := run_look encP 148 155 57 Tryz.und148 keyP w r3 l3 m3 (a, b) (.slice none 0 0) (zero57 w)
  rw [hv1] at hk
  simp only [encP, Option.map_some, Option.getD_some, Option.isSome_some] at hk
  have HV := Lib.hid hv2
  have q1 := fun a b w => build155 a b w
  clear h m3 R3 hv1 hv2
  go_enter Tryz.func329, Tryz.ntmps329
  go_wp2_with fail
  go_ret2
  exact ⟨v, rfl, HV.out, Kept.refl _ _⟩
set_option maxRecDepth 100000 in
set_option maxHeartbeats 1000000 in
theorem construct_dec (d : Nat) (a b : Int) (t : ByteArray) (w : World) (h : Suffixer w d) (hl : lkT (sufT decE) (a, b) = some t) :
    Calls Tryz.prog 327 #[.pointer (some ⟨d, 0, none⟩), .int .i32 a, .int .i32 b, fDec] w (ConsRes w t) := by
  obtain ⟨r1, r2, r3, s1, s2, s3, h1, h2⟩ := h
  have HC := Lib.hid (lconstruct d 0 s1 s2 s3 _ _ _ a b t w h2 hl)
  clear h1 h2 hl
  unfold fDec
  go_enter Tryz.func327, Tryz.ntmps327
  go_wp2_with fail
  refine HC.out.mono ?_
  rintro e w1 ⟨v, rfl, hb, hk⟩
  go_wp2_with fail
  go_ret2
  exact ⟨v, rfl, hb, hk⟩
set_option maxRecDepth 100000 in
set_option maxHeartbeats 1000000 in
theorem construct_bin (d : Nat) (a b : Int) (t : ByteArray) (w : World) (h : Suffixer w d) (hl : lkT (sufT binE) (a, b) = some t) :
    Calls Tryz.prog 327 #[.pointer (some ⟨d, 0, none⟩), .int .i32 a, .int .i32 b, fBin] w (ConsRes w t) := by
  obtain ⟨r1, r2, r3, s1, s2, s3, h1, h2⟩ := h
  have HC := Lib.hid (lconstruct d 3 r1 r2 r3 _ _ _ a b t w h1 hl)
  clear h1 h2 hl
  unfold fBin
  go_enter Tryz.func327, Tryz.ntmps327
  go_wp2_with fail
  refine HC.out.mono ?_
  rintro e w1 ⟨v, rfl, hb, hk⟩
  go_wp2_with fail
  go_ret2
  exact ⟨v, rfl, hb, hk⟩
theorem m_cons (d : Nat) (w : World) : (Go.method 525 157 (.agg #[.pointer (some ⟨d, 0, none⟩)]) "pub-stockroom/pub/apimachinery/pkg/api/resource.constructBytes").run Tryz.prog w = .ok (327, .pointer (some ⟨d, 0, none⟩)) w := by kernel_rfl
theorem m_intp (d : Nat) (w : World) : (Go.method 525 157 (.agg #[.pointer (some ⟨d, 0, none⟩)]) "pub-stockroom/pub/apimachinery/pkg/api/resource.interpret").run Tryz.prog w = .ok (331, .agg #[.pointer (some ⟨d, 0, none⟩)]) w := by kernel_rfl
theorem lk_Mi : lkT (sufT binE) (2, 20) = some ⟨#[77, 105]⟩ := by kernel_rfl
theorem lk_Gi : lkp (sufS decE) ⟨#[71, 105]⟩ 0 = none ∧ lkp (sufS binE) ⟨#[71, 105]⟩ 0 = some (2, encP (2, 30)) := ⟨by kernel_rfl, by kernel_rfl⟩
end Go.Proofs.YtjebnpkebccffaaGreatDoor
