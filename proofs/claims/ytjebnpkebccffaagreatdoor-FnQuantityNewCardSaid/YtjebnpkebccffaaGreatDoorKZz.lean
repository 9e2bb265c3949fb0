import Derived.Test.YtjebnpkebccffaaGreatDoorKPq
import Derived.Test.YtjebnpkebccffaaGreatDoorKMem
import Derived.Laws.RangeAny
import Derived.Lib.OthersKept
set_option linter.unusedSimpArgs false
set_option linter.unusedVariables false
set_option linter.unusedSectionVars false
namespace Go.Proofs.YtjebnpkebccffaaGreatDoor
open Go.RowKit
def sfx : ByteArray := ⟨#[101, 69, 105, 110, 117, 109, 107, 75, 77, 71, 84, 80]⟩
theorem sfx_asciiF : ∀ j : Fin sfx.size, (sfx[j.val]'j.isLt).toNat < 128 := by decide
theorem sfx_isF : ∀ j : Fin sfx.size, isSf (sfx[j.val]'j.isLt).toNat = true := by decide
theorem sfx_ascii (j : Nat) (h : j < sfx.size) : (sfx[j]'h).toNat < 128 := sfx_asciiF ⟨j, h⟩
theorem sfx_is (j : Nat) (h : j < sfx.size) : isSf (sfx[j]'h).toNat = true := sfx_isF ⟨j, h⟩
theorem sfx_no (c : Nat) (h : ∀ j (hj : j < sfx.size), (sfx[j]'hj).toNat ≠ c) : isSf c = false := by
  cases hc : isSf c with
  | false => rfl
  | true =>
    exfalso
    simp only [isSf, Bool.or_eq_true, beq_iff_eq] at hc
    rcases hc with ((((((((((hc | hc) | hc) | hc) | hc) | hc) | hc) | hc) | hc) | hc) | hc) | hc
    · exact h 0 (by decide) hc.symm
    · exact h 1 (by decide) hc.symm
    · exact h 2 (by decide) hc.symm
    · exact h 3 (by decide) hc.symm
    · exact h 4 (by decide) hc.symm
    · exact h 5 (by decide) hc.symm
    · exact h 6 (by decide) hc.symm
    · exact h 7 (by decide) hc.symm
    · exact h 8 (by decide) hc.symm
    · exact h 9 (by decide) hc.symm
    · exact h 10 (by decide) hc.symm
    · exact h 11 (by decide) hc.symm
theorem decode_one (s : ByteArray) (hs : s.size = 1) : Utf8.decode s 0 = (if (s[0]'(by omega)).toNat < 128 then (s[0]'(by omega)).toNat else 65533, 1) := by
  by_cases h : (s[0]'(by omega)).toNat < 128
  · rw [decode_ascii s 0 (by omega) h, if_pos h]
  · have e : s.get! (0 + 0) = s[0]'(by omega) := by
      show s.get! 0 = _
      have h0 : 0 < s.size := by omega
      simp [ByteArray.get!, getElem!_pos, h0]
      rfl
    rw [if_neg h]
    simp only [Utf8.decode, e, hs]
    rw [if_neg h]
    simp [Utf8.runeError]
theorem isSf_small {c : Nat} (h : 128 ≤ c) : isSf c = false := by
  cases hc : isSf c with
  | false => rfl
  | true =>
    simp only [isSf, Bool.or_eq_true, beq_iff_eq] at hc
    omega
def rune (c : Nat) : Nat := if c < 128 then c else 65533
theorem isSf_rune (c : Nat) : isSf (rune c) = isSf c := by
  unfold rune
  split
  · rfl
  · rw [isSf_small (by omega), isSf_small (by omega)]
def IdxRes (w : World) (c : Nat) (e : Ending) (w' : World) : Prop := (∃ v : Int, e = .returned (.int .i64 v) ∧ (v = 0 ∧ isSf c = true ∨ v = -1 ∧ isSf c = false)) ∧ Kept (fun _ => False) w w'
set_option maxRecDepth 100000 in
set_option maxHeartbeats 2000000 in
theorem zzIndexAny_one (s : ByteArray) (c : Nat) (hs : s.size = 1) (hc : (s[0]'(by omega)).toNat = c) (w : World) :
    Calls Tryz.prog 123 #[.string s, .string sfx] w (IdxRes w c) := by
  have hd := decode_one s hs
  rw [hc] at hd
  have n1 : ∀ ty, (Instr.next (.pointer (some ⟨w.heap.size, 0, none⟩)) true ty).run Tryz.prog (w.iter s 0) = .ok (.tuple #[.bool true, .int .i64 0, .int .i32 (rune c : Nat)]) (w.iter s 1) := by
    intro ty
    rw [run_next_any w s 0 ty (by omega), hd]
    rfl
  have hk1 : (w.iter s 1).heap[w.heap.size]? = some (.stringIter s 1) := World.iter_heap w s 1
  have K1 : Kept (fun _ => False) w (w.iter s 1) := (Kept.refl _ w).alloc _
  obtain ⟨W1, hW1⟩ : ∃ W, w.iter s 1 = W := ⟨_, rfl⟩
  rw [hW1] at n1 hk1 K1
  have HK1 := Lib.hid K1
  have n2 : ∀ j (h : j < sfx.size) ty, (Instr.next (.pointer (some ⟨W1.heap.size, 0, none⟩)) true ty).run Tryz.prog (W1.iter sfx j) = .ok (.tuple #[.bool true, .int .i64 j, .int .i32 (sfx[j]'h).toNat]) (W1.iter sfx (j + 1)) := fun j h ty => run_next_ascii W1 sfx j ty h (sfx_ascii j h)
  have n3 : ∀ ty, (Instr.next (.pointer (some ⟨W1.heap.size, 0, none⟩)) true ty).run Tryz.prog (W1.iter sfx 12) = .ok (.tuple #[.bool false]) (W1.iter sfx 12) := fun ty => run_next_end W1 sfx 12 ty (by decide)
  have hk2 : (W1.iter sfx 12).heap[w.heap.size]? = some (.stringIter s 1) := ((Kept.refl (fun _ => False) W1).alloc (.stringIter sfx 12)).at hk1 (fun f => f)
  have n4 : ∀ ty, (Instr.next (.pointer (some ⟨w.heap.size, 0, none⟩)) true ty).run Tryz.prog (W1.iter sfx 12) = .ok (.tuple #[.bool false]) (W1.iter sfx 12) := fun ty => Lib.run_next_end_at _ _ s 1 ty hk2 (by omega)
  clear hd hk1 hk2 K1
  go_enter Tryz.func123, Tryz.ntmps123
  go_wp2_with fail
  refine wp_loop_rounds 2 ?_
  rw [rounds_succ]
  go_wp2_with fail
  have hs12 : sfx.size = 12 := rfl
  go_loopw [8] (fun _ wr => ∃ j, j ≤ 12 ∧ wr = W1.iter sfx j ∧ ∀ k (hk : k < sfx.size), k < j → (sfx[k]'hk).toNat ≠ rune c) (fun _ wr => 12 - wr.iterPos W1.heap.size)
  case atStart => exact ⟨0, by omega, rfl, fun k _ h => by omega⟩
  case round =>
    obtain ⟨j, hj, rfl, hno⟩ := hrel
    rcases Nat.lt_or_ge j 12 with hlt | hge
    · have n5 := n2 j (by omega)
      by_cases he : (sfx[j]'(by omega)).toNat = rune c
      · have hsf := sfx_is j (by omega)
        rw [he, isSf_rune] at hsf
        have g1 : (((rune c : Nat) : Int) == (((sfx[j]'(by omega)).toNat : Nat) : Int)) = true := beqT (by omega)
        go_wp2_with fail
        go_ret
        exact ⟨⟨0, rfl, Or.inl ⟨rfl, hsf⟩⟩, HK1.out.alloc _⟩
      · have hno' : ∀ k (hk : k < sfx.size), k < j + 1 → (sfx[k]'hk).toNat ≠ rune c := fun k hk h => by
          by_cases hkj : k = j
          · subst hkj; exact he
          · exact hno k hk (by omega)
        have HNO := Lib.hid hno'
        have g1 : (((rune c : Nat) : Int) == (((sfx[j]'(by omega)).toNat : Nat) : Int)) = false := beqF (by omega)
        clear hno hno'
        go_wp2_with fail
        go_roundw
        case rel => exact ⟨j + 1, by omega, rfl, HNO.out⟩
        case measure => simp; omega
    · obtain rfl : j = 12 := by omega
      have hsf := sfx_no (rune c) (fun k hk => hno k hk (by omega))
      rw [isSf_rune] at hsf
      clear hno
      go_wp2_with fail
      rw [rounds_succ]
      go_wp2_with fail
      go_ret
      exact ⟨⟨-1, rfl, Or.inr ⟨rfl, hsf⟩⟩, HK1.out.alloc _⟩
set_option maxRecDepth 100000 in
theorem zzContains_one (s : ByteArray) (c : Nat) (hs : s.size = 1) (hc : (s[0]'(by omega)).toNat = c) (w : World) :
    Calls Tryz.prog 88 #[.string s, .string sfx] w fun e w' => e = .returned (.bool (isSf c)) ∧ Kept (fun _ => False) w w' := by
  go_enter Tryz.func88, Tryz.ntmps88
  go_wp2_with fail
  refine (zzIndexAny_one s c hs hc w).mono ?_
  rintro e w1 ⟨⟨v, rfl, h⟩, hk⟩
  rcases h with ⟨rfl, h⟩ | ⟨rfl, h⟩
  · go_wp2_with fail
    go_ret
    exact ⟨by rw [h]; rfl, hk⟩
  · go_wp2_with fail
    go_ret
    exact ⟨by rw [h]; rfl, hk⟩
end Go.Proofs.YtjebnpkebccffaaGreatDoor
