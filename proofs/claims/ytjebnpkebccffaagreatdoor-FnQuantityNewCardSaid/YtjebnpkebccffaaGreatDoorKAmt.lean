import Derived.Test.YtjebnpkebccffaaGreatDoorKNum
import Derived.Test.YtjebnpkebccffaaGreatDoorKMem
import Derived.Test.YtjebnpkebccffaaGreatDoorKMaps
import Derived.Test.YtjebnpkebccffaaGreatDoorKShelf
import Derived.BigQuiet
import Derived.Deep.QuietTactic
set_option linter.unusedSimpArgs false
set_option linter.unusedVariables false
set_option linter.unusedSectionVars false
namespace Go.Proofs.YtjebnpkebccffaaGreatDoor
open Go.RowKit
def IntOk (w : World) (n : Int) (k : Bool) (e : Ending) (w' : World) : Prop := e = .returned (.tuple #[.int .i64 n, .bool k]) ∧ w = w'
def MulRes (w : World) (p : Int) (e : Ending) (w' : World) : Prop := (∃ (c : Int) (k : Bool), e = .returned (.tuple #[.int .i64 c, .bool k]) ∧ ((-9223372036854775807 ≤ p ∧ p ≤ 9223372036854775807) → c = p ∧ k = true) ∧ (¬ (-9223372036854775807 ≤ p ∧ p ≤ 9223372036854775807) → k = false)) ∧ Kept (fun _ => False) w w'
theorem MulRes.fits {w w' : World} {p : Int} {e : Ending} (h : MulRes w p e w') (h1 : -9223372036854775807 ≤ p) (h2 : p ≤ 9223372036854775807) : e = .returned (.tuple #[.int .i64 p, .bool true]) ∧ Kept (fun _ => False) w w' := by
  obtain ⟨⟨c, k, rfl, h3, -⟩, hk⟩ := h
  obtain ⟨rfl, rfl⟩ := h3 ⟨h1, h2⟩
  exact ⟨rfl, hk⟩
theorem MulRes.over {w w' : World} {p : Int} {e : Ending} (h : MulRes w p e w') (h1 : ¬ (-9223372036854775807 ≤ p ∧ p ≤ 9223372036854775807)) : ∃ c : Int, e = .returned (.tuple #[.int .i64 c, .bool false]) ∧ Kept (fun _ => False) w w' := by
  obtain ⟨⟨c, k, rfl, -, h3⟩, hk⟩ := h
  obtain rfl := h3 h1
  exact ⟨c, rfl, hk⟩
theorem tdiv_if (x b : Int) : x.tdiv b = if 0 ≤ x then x / b else -((-x) / b) := by
  split
  · rename_i h; exact Int.tdiv_eq_ediv_of_nonneg h
  · rename_i h
    have e : x = -(-x) := by omega
    rw [e, Int.neg_tdiv, Int.tdiv_eq_ediv_of_nonneg (by omega)]
    simp
theorem mul_res {w w' : World} {p c : Int} {k : Bool} (h1 : (-9223372036854775807 ≤ p ∧ p ≤ 9223372036854775807) → c = p ∧ k = true) (h2 : ¬ (-9223372036854775807 ≤ p ∧ p ≤ 9223372036854775807) → k = false) (hk : Kept (fun _ => False) w w') : MulRes w p (.returned (.tuple #[.int .i64 c, .bool k])) w' := ⟨⟨c, k, rfl, h1, h2⟩, hk⟩
set_option maxHeartbeats 1000000 in
theorem mul10_any (a : Int) (w : World) (h1 : -9223372036854775808 ≤ a) (h2 : a ≤ 9223372036854775807) : Calls Tryz.prog 152 #[.int .i64 a] w (MulRes w (a * 10)) := by
  by_cases h0 : a = 0
  · have H := mul_res (w := w) (p := a * 10) (c := 0) (k := true) (fun _ => ⟨by omega, rfl⟩) (fun h => by omega) (Kept.refl _ _)
    have HH := Lib.hid H
    clear H
    subst h0
    go_enter Tryz.func152, Tryz.ntmps152
    go_wp2_with fail
    go_ret2
    exact HH.out
  · by_cases h3 : a = 1
    · have H := mul_res (w := w) (p := a * 10) (c := 10) (k := true) (fun _ => ⟨by omega, rfl⟩) (fun h => by omega) (Kept.refl _ _)
      have HH := Lib.hid H
      clear H
      subst h3
      go_enter Tryz.func152, Tryz.ntmps152
      go_wp2_with fail
      go_ret2
      exact HH.out
    · have g0 : (a == 0) = false := beqF h0
      have g1 : (a == 1) = false := beqF h3
      by_cases h4 : a = -9223372036854775808
      · have H := mul_res (w := w) (p := a * 10) (c := 0) (k := false) (fun h => by omega) (fun h => rfl) (Kept.refl _ _)
        have HH := Lib.hid H
        clear H
        subst h4
        go_enter Tryz.func152, Tryz.ntmps152
        go_wp2_with fail
        go_ret2
        exact HH.out
      · have g4 : (a == -9223372036854775808) = false := beqF h4
        by_cases h5 : -9223372036854775807 ≤ a * 10 ∧ a * 10 ≤ 9223372036854775807
        · have H := mul_res (w := w) (p := a * 10) (c := a * 10) (k := true) (fun _ => ⟨rfl, rfl⟩) (fun h => absurd h5 h) (Kept.refl _ _)
          have HH := Lib.hid H
          have g5 : ((a * 10).tdiv 10 == a) = true := beqT (by rw [tdiv_if]; split <;> omega)
          obtain ⟨b1, b2⟩ := h5
          have g6 : wrap64 (a * 10) = a * 10 := by unfold wrap64; omega
          clear H h0 h3 h4
          go_enter Tryz.func152, Tryz.ntmps152
          go_wp2_with fail
          go_ret2
          exact HH.out
        · have H := mul_res (w := w) (p := a * 10) (c := wrap64 (a * 10)) (k := false) (fun h => absurd h h5) (fun h => rfl) (Kept.refl _ _)
          have HH := Lib.hid H
          have g5 : ((wrap64 (a * 10)).tdiv 10 == a) = false := beqF (by rw [tdiv_if]; unfold wrap64; split <;> omega)
          have g7 : (wrap64 ((wrap64 (a * 10)).tdiv 10) == a) = false := beqF (by rw [tdiv_if]; unfold wrap64; split <;> omega)
          clear H h0 h3 h4 h5
          go_enter Tryz.func152, Tryz.ntmps152
          go_wp2_with fail
          go_ret2
          exact HH.out
set_option maxHeartbeats 1000000 in
theorem mul100_any (a : Int) (w : World) (h1 : -9223372036854775808 ≤ a) (h2 : a ≤ 9223372036854775807) : Calls Tryz.prog 153 #[.int .i64 a] w (MulRes w (a * 100)) := by
  by_cases h0 : a = 0
  · have H := mul_res (w := w) (p := a * 100) (c := 0) (k := true) (fun _ => ⟨by omega, rfl⟩) (fun h => by omega) (Kept.refl _ _)
    have HH := Lib.hid H
    clear H
    subst h0
    go_enter Tryz.func153, Tryz.ntmps153
    go_wp2_with fail
    go_ret2
    exact HH.out
  · by_cases h3 : a = 1
    · have H := mul_res (w := w) (p := a * 100) (c := 100) (k := true) (fun _ => ⟨by omega, rfl⟩) (fun h => by omega) (Kept.refl _ _)
      have HH := Lib.hid H
      clear H
      subst h3
      go_enter Tryz.func153, Tryz.ntmps153
      go_wp2_with fail
      go_ret2
      exact HH.out
    · have g0 : (a == 0) = false := beqF h0
      have g1 : (a == 1) = false := beqF h3
      by_cases h4 : a = -9223372036854775808
      · have H := mul_res (w := w) (p := a * 100) (c := 0) (k := false) (fun h => by omega) (fun h => rfl) (Kept.refl _ _)
        have HH := Lib.hid H
        clear H
        subst h4
        go_enter Tryz.func153, Tryz.ntmps153
        go_wp2_with fail
        go_ret2
        exact HH.out
      · have g4 : (a == -9223372036854775808) = false := beqF h4
        by_cases h5 : -9223372036854775807 ≤ a * 100 ∧ a * 100 ≤ 9223372036854775807
        · have H := mul_res (w := w) (p := a * 100) (c := a * 100) (k := true) (fun _ => ⟨rfl, rfl⟩) (fun h => absurd h5 h) (Kept.refl _ _)
          have HH := Lib.hid H
          have g5 : ((a * 100).tdiv 100 == a) = true := beqT (by rw [tdiv_if]; split <;> omega)
          obtain ⟨b1, b2⟩ := h5
          have g6 : wrap64 (a * 100) = a * 100 := by unfold wrap64; omega
          clear H h0 h3 h4
          go_enter Tryz.func153, Tryz.ntmps153
          go_wp2_with fail
          go_ret2
          exact HH.out
        · have H := mul_res (w := w) (p := a * 100) (c := wrap64 (a * 100)) (k := false) (fun h => absurd h h5) (fun h => rfl) (Kept.refl _ _)
          have HH := Lib.hid H
          have g5 : ((wrap64 (a * 100)).tdiv 100 == a) = false := beqF (by rw [tdiv_if]; unfold wrap64; split <;> omega)
          have g7 : (wrap64 ((wrap64 (a * 100)).tdiv 100) == a) = false := beqF (by rw [tdiv_if]; unfold wrap64; split <;> omega)
          clear H h0 h3 h4 h5
          go_enter Tryz.func153, Tryz.ntmps153
          go_wp2_with fail
          go_ret2
          exact HH.out
set_option maxHeartbeats 1000000 in
theorem mul1000_any (a : Int) (w : World) (h1 : -9223372036854775808 ≤ a) (h2 : a ≤ 9223372036854775807) : Calls Tryz.prog 154 #[.int .i64 a] w (MulRes w (a * 1000)) := by
  by_cases h0 : a = 0
  · have H := mul_res (w := w) (p := a * 1000) (c := 0) (k := true) (fun _ => ⟨by omega, rfl⟩) (fun h => by omega) (Kept.refl _ _)
    have HH := Lib.hid H
    clear H
    subst h0
    go_enter Tryz.func154, Tryz.ntmps154
    go_wp2_with fail
    go_ret2
    exact HH.out
  · by_cases h3 : a = 1
    · have H := mul_res (w := w) (p := a * 1000) (c := 1000) (k := true) (fun _ => ⟨by omega, rfl⟩) (fun h => by omega) (Kept.refl _ _)
      have HH := Lib.hid H
      clear H
      subst h3
      go_enter Tryz.func154, Tryz.ntmps154
      go_wp2_with fail
      go_ret2
      exact HH.out
    · have g0 : (a == 0) = false := beqF h0
      have g1 : (a == 1) = false := beqF h3
      by_cases h4 : a = -9223372036854775808
      · have H := mul_res (w := w) (p := a * 1000) (c := 0) (k := false) (fun h => by omega) (fun h => rfl) (Kept.refl _ _)
        have HH := Lib.hid H
        clear H
        subst h4
        go_enter Tryz.func154, Tryz.ntmps154
        go_wp2_with fail
        go_ret2
        exact HH.out
      · have g4 : (a == -9223372036854775808) = false := beqF h4
        by_cases h5 : -9223372036854775807 ≤ a * 1000 ∧ a * 1000 ≤ 9223372036854775807
        · have H := mul_res (w := w) (p := a * 1000) (c := a * 1000) (k := true) (fun _ => ⟨rfl, rfl⟩) (fun h => absurd h5 h) (Kept.refl _ _)
          have HH := Lib.hid H
          have g5 : ((a * 1000).tdiv 1000 == a) = true := beqT (by rw [tdiv_if]; split <;> omega)
          obtain ⟨b1, b2⟩ := h5
          have g6 : wrap64 (a * 1000) = a * 1000 := by unfold wrap64; omega
          clear H h0 h3 h4
          go_enter Tryz.func154, Tryz.ntmps154
          go_wp2_with fail
          go_ret2
          exact HH.out
        · have H := mul_res (w := w) (p := a * 1000) (c := wrap64 (a * 1000)) (k := false) (fun h => absurd h h5) (fun h => rfl) (Kept.refl _ _)
          have HH := Lib.hid H
          have g5 : ((wrap64 (a * 1000)).tdiv 1000 == a) = false := beqF (by rw [tdiv_if]; unfold wrap64; split <;> omega)
          have g7 : (wrap64 ((wrap64 (a * 1000)).tdiv 1000) == a) = false := beqF (by rw [tdiv_if]; unfold wrap64; split <;> omega)
          clear H h0 h3 h4 h5
          go_enter Tryz.func154, Tryz.ntmps154
          go_wp2_with fail
          go_ret2
          exact HH.out
set_option maxHeartbeats 1000000 in
theorem mulS10_any (a : Int) (w : World) (h1 : -9223372036854775808 ≤ a) (h2 : a ≤ 9223372036854775807) : Calls Tryz.prog 155 #[.int .i64 a, .int .i64 10] w (MulRes w (a * 10)) := by
  by_cases h0 : a = 0
  · have H := mul_res (w := w) (p := a * 10) (c := 0) (k := true) (fun _ => ⟨by omega, rfl⟩) (fun h => by omega) (Kept.refl _ _)
    have HH := Lib.hid H
    clear H
    subst h0
    go_enter Tryz.func155, Tryz.ntmps155
    go_wp2_with fail
    go_ret2
    exact HH.out
  · by_cases h3 : a = 1
    · have H := mul_res (w := w) (p := a * 10) (c := 10) (k := true) (fun _ => ⟨by omega, rfl⟩) (fun h => by omega) (Kept.refl _ _)
      have HH := Lib.hid H
      clear H
      subst h3
      go_enter Tryz.func155, Tryz.ntmps155
      go_wp2_with fail
      go_ret2
      exact HH.out
    · have g0 : (a == 0) = false := beqF h0
      have g1 : (a == 1) = false := beqF h3
      by_cases h4 : a = -9223372036854775808
      · have H := mul_res (w := w) (p := a * 10) (c := 0) (k := false) (fun h => by omega) (fun h => rfl) (Kept.refl _ _)
        have HH := Lib.hid H
        clear H
        subst h4
        go_enter Tryz.func155, Tryz.ntmps155
        go_wp2_with fail
        go_ret2
        exact HH.out
      · have g4 : (a == -9223372036854775808) = false := beqF h4
        by_cases h5 : -9223372036854775807 ≤ a * 10 ∧ a * 10 ≤ 9223372036854775807
        · have H := fun nq => mul_res (w := w) (w' := w.drewN nq) (p := a * 10) (c := a * 10) (k := true) (fun _ => ⟨rfl, rfl⟩) (fun h => absurd h5 h) ((Kept.refl _ _).drewN _)
          have HH := Lib.hid H
          have g5 : ((a * 10).tdiv 10 == a) = true := beqT (by rw [tdiv_if]; split <;> omega)
          obtain ⟨b1, b2⟩ := h5
          have g6 : wrap64 (a * 10) = a * 10 := by unfold wrap64; omega
          clear H h0 h3 h4
          go_enter Tryz.func155, Tryz.ntmps155
          go_wp2_with fail
          go_quiet (fail)
          go_wp2_with fail
          go_ret2
          exact HH.out _
        · have H := fun nq => mul_res (w := w) (w' := w.drewN nq) (p := a * 10) (c := wrap64 (a * 10)) (k := false) (fun h => absurd h h5) (fun h => rfl) ((Kept.refl _ _).drewN _)
          have HH := Lib.hid H
          have g5 : ((wrap64 (a * 10)).tdiv 10 == a) = false := beqF (by rw [tdiv_if]; unfold wrap64; split <;> omega)
          have g7 : (wrap64 ((wrap64 (a * 10)).tdiv 10) == a) = false := beqF (by rw [tdiv_if]; unfold wrap64; split <;> omega)
          clear H h0 h3 h4 h5
          go_enter Tryz.func155, Tryz.ntmps155
          go_wp2_with fail
          go_quiet (fail)
          go_wp2_with fail
          go_ret2
          exact HH.out _
set_option maxHeartbeats 1000000 in
theorem mulS6_any (a : Int) (w : World) (h1 : -9223372036854775808 ≤ a) (h2 : a ≤ 9223372036854775807) : Calls Tryz.prog 155 #[.int .i64 a, .int .i64 1000000] w (MulRes w (a * 1000000)) := by
  by_cases h0 : a = 0
  · have H := mul_res (w := w) (p := a * 1000000) (c := 0) (k := true) (fun _ => ⟨by omega, rfl⟩) (fun h => by omega) (Kept.refl _ _)
    have HH := Lib.hid H
    clear H
    subst h0
    go_enter Tryz.func155, Tryz.ntmps155
    go_wp2_with fail
    go_ret2
    exact HH.out
  · by_cases h3 : a = 1
    · have H := mul_res (w := w) (p := a * 1000000) (c := 1000000) (k := true) (fun _ => ⟨by omega, rfl⟩) (fun h => by omega) (Kept.refl _ _)
      have HH := Lib.hid H
      clear H
      subst h3
      go_enter Tryz.func155, Tryz.ntmps155
      go_wp2_with fail
      go_ret2
      exact HH.out
    · have g0 : (a == 0) = false := beqF h0
      have g1 : (a == 1) = false := beqF h3
      by_cases h4 : a = -9223372036854775808
      · have H := mul_res (w := w) (p := a * 1000000) (c := 0) (k := false) (fun h => by omega) (fun h => rfl) (Kept.refl _ _)
        have HH := Lib.hid H
        clear H
        subst h4
        go_enter Tryz.func155, Tryz.ntmps155
        go_wp2_with fail
        go_ret2
        exact HH.out
      · have g4 : (a == -9223372036854775808) = false := beqF h4
        by_cases h5 : -9223372036854775807 ≤ a * 1000000 ∧ a * 1000000 ≤ 9223372036854775807
        · have H := fun nq => mul_res (w := w) (w' := w.drewN nq) (p := a * 1000000) (c := a * 1000000) (k := true) (fun _ => ⟨rfl, rfl⟩) (fun h => absurd h5 h) ((Kept.refl _ _).drewN _)
          have HH := Lib.hid H
          have g5 : ((a * 1000000).tdiv 1000000 == a) = true := beqT (by rw [tdiv_if]; split <;> omega)
          obtain ⟨b1, b2⟩ := h5
          have g6 : wrap64 (a * 1000000) = a * 1000000 := by unfold wrap64; omega
          clear H h0 h3 h4
          go_enter Tryz.func155, Tryz.ntmps155
          go_wp2_with fail
          go_quiet (fail)
          go_wp2_with fail
          go_ret2
          exact HH.out _
        · have H := fun nq => mul_res (w := w) (w' := w.drewN nq) (p := a * 1000000) (c := wrap64 (a * 1000000)) (k := false) (fun h => absurd h h5) (fun h => rfl) ((Kept.refl _ _).drewN _)
          have HH := Lib.hid H
          have g5 : ((wrap64 (a * 1000000)).tdiv 1000000 == a) = false := beqF (by rw [tdiv_if]; unfold wrap64; split <;> omega)
          have g7 : (wrap64 ((wrap64 (a * 1000000)).tdiv 1000000) == a) = false := beqF (by rw [tdiv_if]; unfold wrap64; split <;> omega)
          clear H h0 h3 h4 h5
          go_enter Tryz.func155, Tryz.ntmps155
          go_wp2_with fail
          go_quiet (fail)
          go_wp2_with fail
          go_ret2
          exact HH.out _
set_option maxHeartbeats 1000000 in
theorem mulS9_any (a : Int) (w : World) (h1 : -9223372036854775808 ≤ a) (h2 : a ≤ 9223372036854775807) : Calls Tryz.prog 155 #[.int .i64 a, .int .i64 1000000000] w (MulRes w (a * 1000000000)) := by
  by_cases h0 : a = 0
  · have H := mul_res (w := w) (p := a * 1000000000) (c := 0) (k := true) (fun _ => ⟨by omega, rfl⟩) (fun h => by omega) (Kept.refl _ _)
    have HH := Lib.hid H
    clear H
    subst h0
    go_enter Tryz.func155, Tryz.ntmps155
    go_wp2_with fail
    go_ret2
    exact HH.out
  · by_cases h3 : a = 1
    · have H := mul_res (w := w) (p := a * 1000000000) (c := 1000000000) (k := true) (fun _ => ⟨by omega, rfl⟩) (fun h => by omega) (Kept.refl _ _)
      have HH := Lib.hid H
      clear H
      subst h3
      go_enter Tryz.func155, Tryz.ntmps155
      go_wp2_with fail
      go_ret2
      exact HH.out
    · have g0 : (a == 0) = false := beqF h0
      have g1 : (a == 1) = false := beqF h3
      by_cases h4 : a = -9223372036854775808
      · have H := mul_res (w := w) (p := a * 1000000000) (c := 0) (k := false) (fun h => by omega) (fun h => rfl) (Kept.refl _ _)
        have HH := Lib.hid H
        clear H
        subst h4
        go_enter Tryz.func155, Tryz.ntmps155
        go_wp2_with fail
        go_ret2
        exact HH.out
      · have g4 : (a == -9223372036854775808) = false := beqF h4
        by_cases h5 : -9223372036854775807 ≤ a * 1000000000 ∧ a * 1000000000 ≤ 9223372036854775807
        · have H := fun nq => mul_res (w := w) (w' := w.drewN nq) (p := a * 1000000000) (c := a * 1000000000) (k := true) (fun _ => ⟨rfl, rfl⟩) (fun h => absurd h5 h) ((Kept.refl _ _).drewN _)
          have HH := Lib.hid H
          have g5 : ((a * 1000000000).tdiv 1000000000 == a) = true := beqT (by rw [tdiv_if]; split <;> omega)
          obtain ⟨b1, b2⟩ := h5
          have g6 : wrap64 (a * 1000000000) = a * 1000000000 := by unfold wrap64; omega
          clear H h0 h3 h4
          go_enter Tryz.func155, Tryz.ntmps155
          go_wp2_with fail
          go_quiet (fail)
          go_wp2_with fail
          go_ret2
          exact HH.out _
        · have H := fun nq => mul_res (w := w) (w' := w.drewN nq) (p := a * 1000000000) (c := wrap64 (a * 1000000000)) (k := false) (fun h => absurd h h5) (fun h => rfl) ((Kept.refl _ _).drewN _)
          have HH := Lib.hid H
          have g5 : ((wrap64 (a * 1000000000)).tdiv 1000000000 == a) = false := beqF (by rw [tdiv_if]; unfold wrap64; split <;> omega)
          have g7 : (wrap64 ((wrap64 (a * 1000000000)).tdiv 1000000000) == a) = false := beqF (by rw [tdiv_if]; unfold wrap64; split <;> omega)
          clear H h0 h3 h4 h5
          go_enter Tryz.func155, Tryz.ntmps155
          go_wp2_with fail
          go_quiet (fail)
          go_wp2_with fail
          go_ret2
          exact HH.out _
def uI : Value → Nat
  | .int _ n => n.toNat
  | _ => 0
theorem pow_fit {a : Int} {i s : Nat} (h : i ≤ s) (h1 : -9223372036854775807 ≤ a * 10 ^ s) (h2 : a * 10 ^ s ≤ 9223372036854775807) : -9223372036854775807 ≤ a * 10 ^ i ∧ a * 10 ^ i ≤ 9223372036854775807 := by
  obtain ⟨k, rfl⟩ : ∃ k, s = i + k := ⟨s - i, by omega⟩
  rw [Int.pow_add, ← Int.mul_assoc] at h1 h2
  have hp : (1 : Int) ≤ 10 ^ k := by
    have := Nat.one_le_two_pow (n := 0)
    have h : 0 < 10 ^ k := Nat.pow_pos (by omega)
    exact_mod_cast h
  generalize a * 10 ^ i = x at *
  generalize (10 : Int) ^ k = p at *
  rcases Int.lt_or_le x 0 with hx | hx
  · have : x * p ≤ x * 1 := Int.mul_le_mul_of_nonpos_left (by omega) hp
    omega
  · have : x * 1 ≤ x * p := Int.mul_le_mul_of_nonneg_left hp hx
    omega
set_option maxHeartbeats 2000000 in
theorem posScale_any (a : Int) (s : Nat) (hs : s ≤ 1000) (w : World) (h1 : -9223372036854775807 ≤ a) (h2 : a ≤ 9223372036854775807) : Calls Tryz.prog 116 #[.int .i64 a, .int .i32 (s : Int)] w (MulRes w (a * 10 ^ s)) := by
  have h1' : -9223372036854775808 ≤ a := by omega
  by_cases c0 : s = 0
  · subst c0
    have HH := Lib.hid (mul_res (w := w) (w' := w) (p := a * 10 ^ 0) (c := a) (k := true) (fun _ => ⟨by simp, rfl⟩) (fun h => absurd ⟨by simpa using h1, by simpa using h2⟩ h) (Kept.refl _ _))
    go_enter Tryz.func116, Tryz.ntmps116
    go_wp2_with fail
    go_ret2
    exact HH.out
  by_cases c1 : s = 1
  · subst c1
    have H := Lib.hid (mul10_any a w h1' h2)
    go_enter Tryz.func116, Tryz.ntmps116
    go_wp2_with fail
    refine H.out.mono ?_
    intro e w1 hr
    obtain ⟨⟨c, k, rfl, h3, h4⟩, hk⟩ := hr
    have HH := Lib.hid (mul_res h3 h4 hk)
    clear h3 h4 hk H
    go_wp2_with fail
    go_ret2
    exact HH.out
  by_cases c2 : s = 2
  · subst c2
    have H := Lib.hid (mul100_any a w h1' h2)
    go_enter Tryz.func116, Tryz.ntmps116
    go_wp2_with fail
    refine H.out.mono ?_
    intro e w1 hr
    obtain ⟨⟨c, k, rfl, h3, h4⟩, hk⟩ := hr
    have HH := Lib.hid (mul_res h3 h4 hk)
    clear h3 h4 hk H
    go_wp2_with fail
    go_ret2
    exact HH.out
  by_cases c3 : s = 3
  · subst c3
    have H := Lib.hid (mul1000_any a w h1' h2)
    go_enter Tryz.func116, Tryz.ntmps116
    go_wp2_with fail
    refine H.out.mono ?_
    intro e w1 hr
    obtain ⟨⟨c, k, rfl, h3, h4⟩, hk⟩ := hr
    have HH := Lib.hid (mul_res h3 h4 hk)
    clear h3 h4 hk H
    go_wp2_with fail
    go_ret2
    exact HH.out
  by_cases c6 : s = 6
  · subst c6
    have H := Lib.hid (mulS6_any a w h1' h2)
    go_enter Tryz.func116, Tryz.ntmps116
    go_wp2_with fail
    refine H.out.mono ?_
    intro e w1 hr
    obtain ⟨⟨c, k, rfl, h3, h4⟩, hk⟩ := hr
    have HH := Lib.hid (mul_res h3 h4 hk)
    clear h3 h4 hk H
    go_wp2_with fail
    go_ret2
    exact HH.out
  by_cases c9 : s = 9
  · subst c9
    have H := Lib.hid (mulS9_any a w h1' h2)
    go_enter Tryz.func116, Tryz.ntmps116
    go_wp2_with fail
    refine H.out.mono ?_
    intro e w1 hr
    obtain ⟨⟨c, k, rfl, h3, h4⟩, hk⟩ := hr
    have HH := Lib.hid (mul_res h3 h4 hk)
    clear h3 h4 hk H
    go_wp2_with fail
    go_ret2
    exact HH.out
  have q0 : ((s : Int) == 0) = false := beqF (by omega)
  have q1 : ((s : Int) == 1) = false := beqF (by omega)
  have q2 : ((s : Int) == 2) = false := beqF (by omega)
  have q3 : ((s : Int) == 3) = false := beqF (by omega)
  have q6 : ((s : Int) == 6) = false := beqF (by omega)
  have q9 : ((s : Int) == 9) = false := beqF (by omega)
  have HA : Hid (-9223372036854775807 ≤ a * 10 ^ 0 ∧ a * 10 ^ 0 ≤ 9223372036854775807) := by
    show -9223372036854775807 ≤ a * 10 ^ 0 ∧ a * 10 ^ 0 ≤ 9223372036854775807
    simp; omega
  clear c0 c1 c2 c3 c6 c9
  go_enter Tryz.func116, Tryz.ntmps116
  go_wp2_with fail
  go_loopw [6, 7, 8] (fun v6 v7 v8 wr => ∃ (i : Nat) (b : Bool), v6 = .int .i64 (a * 10 ^ i) ∧ v7 = .bool b ∧ v8 = .int .i32 (i : Int) ∧ i ≤ s ∧ Hid (-9223372036854775807 ≤ a * 10 ^ i ∧ a * 10 ^ i ≤ 9223372036854775807) ∧ Hid (Kept (fun _ => False) w wr)) (fun _ _ v8 _ => s - uI v8)
  case atStart => exact ⟨0, false, by simp, rfl, rfl, by omega, HA, Lib.hid (Kept.refl _ _)⟩
  case round =>
    clear HA
    obtain ⟨i, b, rfl, rfl, rfl, hi, HB, HK⟩ := hrel
    rcases Nat.lt_or_ge i s with hlt | hge
    · have hpp : a * 10 ^ (i + 1) = a * 10 ^ i * 10 := by rw [Int.pow_succ, Int.mul_assoc]
      have HF : Hid ((-9223372036854775807 ≤ a * 10 ^ s ∧ a * 10 ^ s ≤ 9223372036854775807) → (-9223372036854775807 ≤ a * 10 ^ (i + 1) ∧ a * 10 ^ (i + 1) ≤ 9223372036854775807)) := fun h => pow_fit (by omega) h.1 h.2
      rw [hpp] at HF
      have HPP := Lib.hid hpp
      clear hpp
      generalize a * 10 ^ i = x at *
      have HM : Hid (∀ wr, Calls Tryz.prog 155 #[.int .i64 x, .int .i64 10] wr (MulRes wr (x * 10))) := fun wr => mulS10_any x wr (by have := HB.out.1; omega) HB.out.2
      by_cases hf : -9223372036854775807 ≤ x * 10 ∧ x * 10 ≤ 9223372036854775807
      · have HF2 := Lib.hid hf
        clear hf
        go_wp2_with fail
        refine (HM.out _).mono ?_
        intro e w1 hr
        obtain ⟨rfl, hk⟩ := hr.fits HF2.out.1 HF2.out.2
        have HK2 := Lib.hid (HK.out.same hk)
        have HB2 : Hid (-9223372036854775807 ≤ x * 10 ∧ x * 10 ≤ 9223372036854775807) := HF2.out
        clear hr hk
        generalize hy : x * 10 = y at *
        go_wp2_with fail
        go_roundw
        case rel => exact ⟨i + 1, true, by rw [HPP.out], rfl, by go_num, by omega, by rw [HPP.out]; exact HB2, HK2⟩
        case measure => simp [uI]; omega
      · have HF2 := Lib.hid hf
        clear hf
        go_wp2_with fail
        refine (HM.out _).mono ?_
        intro e w1 hr
        obtain ⟨c, rfl, hk⟩ := hr.over HF2.out
        have HH : Hid (MulRes w (a * 10 ^ s) (.returned (.tuple #[.int .i64 0, .bool false])) w1) := mul_res (fun h => absurd (HF.out h) HF2.out) (fun _ => rfl) (HK.out.same hk)
        clear hr hk
        go_wp2_with fail
        go_ret2
        exact HH.out
    · obtain rfl : i = s := by omega
      have HH : Hid (MulRes w (a * 10 ^ i) (.returned (.tuple #[.int .i64 (a * 10 ^ i), .bool true])) wr) := by
        exact mul_res (fun _ => ⟨rfl, rfl⟩) (fun h => absurd HB.out h) HK.out
      generalize a * 10 ^ i = x at *
      go_wp2_with fail
      go_ret2
      exact HH.out
end Go.Proofs.YtjebnpkebccffaaGreatDoor
namespace Go.Proofs.YtjebnpkebccffaaGreatDoor
open Go.RowKit
def negN (A s : Nat) : Nat := if A % 10 ^ s = 0 then A / 10 ^ s else A / 10 ^ s + 1
def exN (A s : Nat) : Bool := decide (A % 10 ^ s = 0)
theorem dec_step (A i : Nat) : A / 10 ^ (i + 1) = A / 10 ^ i / 10 := by rw [Nat.pow_succ, Nat.div_div_eq_div_mul]
theorem rem_step (A i : Nat) : A % 10 ^ (i + 1) = A % 10 ^ i + 10 ^ i * (A / 10 ^ i % 10) := by rw [Nat.pow_succ, Nat.mod_mul]
theorem neg_zero {A i s : Nat} (hi : i + 1 ≤ s) (h : A / 10 ^ i / 10 = 0) : negN A s = (if A = 0 then 0 else 1) ∧ exN A s = decide (A = 0) := by
  have hp : 0 < 10 ^ (i + 1) := Nat.pow_pos (by omega)
  have h1 : A < 10 ^ (i + 1) := by
    rw [← dec_step] at h
    exact (Nat.div_eq_zero_iff_lt hp).1 h
  have h2 : A < 10 ^ s := Nat.lt_of_lt_of_le h1 (Nat.pow_le_pow_right (by omega) hi)
  unfold negN exN
  rw [Nat.mod_eq_of_lt h2, Nat.div_eq_of_lt h2]
  exact ⟨by split <;> rfl, rfl⟩
theorem rem_zero {A i : Nat} (h : A / 10 ^ i / 10 = 0) : A % 10 ^ (i + 1) = A := by
  rw [← dec_step] at h
  exact Nat.mod_eq_of_lt ((Nat.div_eq_zero_iff_lt (Nat.pow_pos (by omega))).1 h)
set_option maxHeartbeats 4000000 in
theorem negScale_pos (A s : Nat) (hA : A ≤ 9223372036854775807) (h0 : 0 < A) (hs : s ≤ 1000) (w : World) : Calls Tryz.prog 115 #[.int .i64 ((A : Nat) : Int), .int .i32 (s : Int)] w (IntOk w ((negN A s : Nat) : Int) (exN A s)) := by
  by_cases c0 : s = 0
  · subst c0
    have e1 : negN A 0 = A := by simp [negN, Nat.mod_one]
    have e2 : exN A 0 = true := by simp [exN, Nat.mod_one]
    rw [e1, e2]
    have HA := Lib.hid hA
    clear e1 e2
    go_enter Tryz.func115, Tryz.ntmps115
    go_wp2_with fail
    go_ret2
    exact ⟨rfl, rfl⟩
  · have q0 : ((s : Int) == 0) = false := beqF (by omega)
    have HA0 := Lib.hid h0
    have H0A : Hid (A / 10 ^ 0 = A) := by show A / 10 ^ 0 = A; simp
    have HNZ : Hid (∀ i, i + 1 ≤ s → A / 10 ^ i / 10 = 0 → ((negN A s : Nat) : Int) = 1 ∧ exN A s = false) := fun i h1 h2 => by
      obtain ⟨g1, g2⟩ := neg_zero h1 h2
      rw [g1, g2, if_neg (by omega)]
      exact ⟨rfl, decide_eq_false (by omega)⟩
    have hgt : decide ((0 : Int) < (A : Int)) = true := decT (by omega)
    clear c0
    go_enter Tryz.func115, Tryz.ntmps115
    go_wp2_with fail
    go_loop [6, 7, 8] (fun v6 v7 v8 => ∃ i : Nat, v6 = .int .i64 ((A / 10 ^ i : Nat) : Int) ∧ v7 = .bool (!decide (A % 10 ^ i = 0)) ∧ v8 = .int .i32 (i : Int) ∧ i ≤ s ∧ 0 < A / 10 ^ i) (fun _ _ v8 => s - uI v8)
    case atStart => exact ⟨0, by rw [H0A.out], by simp [Nat.mod_one], rfl, by omega, by rw [H0A.out]; exact HA0.out⟩
    case round =>
      obtain ⟨i, rfl, rfl, rfl, hi, hv0⟩ := hrel
      have hvA : A / 10 ^ i ≤ A := Nat.div_le_self _ _
      rcases Nat.lt_or_ge i s with hlt | hge
      · have HD := Lib.hid (dec_step A i)
        have hr := rem_step A i
        have hp : 0 < 10 ^ i := Nat.pow_pos (by omega)
        have HZ := Lib.hid (HNZ.out i (by omega))
        have HRZ : Hid (A / 10 ^ i / 10 = 0 → A % 10 ^ (i + 1) = A) := rem_zero
        generalize A / 10 ^ i = v at *
        generalize hR : A % 10 ^ i = R at *
        generalize hR2 : A % 10 ^ (i + 1) = R2 at *
        have hz : R2 = 0 ↔ (R = 0 ∧ v % 10 = 0) := by
          rw [hr]
          constructor
          · intro h
            have h2 : 10 ^ i * (v % 10) = 0 := by omega
            rcases Nat.mul_eq_zero.1 h2 with h3 | h3
            · omega
            · exact ⟨by omega, h3⟩
          · rintro ⟨h1, h2⟩
            rw [h1, h2]
            simp
        have HREL : Hid (∀ fr : Bool, fr = (!decide (R2 = 0)) → ∀ x : Nat, x = v / 10 → 0 < x → ∃ i' : Nat, Value.int IntKind.i64 ((x : Nat) : Int) = .int .i64 ((A / 10 ^ i' : Nat) : Int) ∧ Value.bool fr = .bool (!decide (A % 10 ^ i' = 0)) ∧ i' = i + 1 ∧ i' ≤ s ∧ 0 < A / 10 ^ i') := fun fr h1 x h2 h3 => ⟨i + 1, by rw [HD.out, h2], by rw [h1, hR2], rfl, by omega, by rw [HD.out, ← h2]; exact h3⟩
        have HZR := Lib.hid hz
        clear hr hp hz hR hR2
        have hcase : (R = 0 ∧ v % 10 = 0) ∨ (R = 0 ∧ v % 10 ≠ 0) ∨ R ≠ 0 := by omega
        rcases hcase with ⟨r1, r2⟩ | ⟨r1, r2⟩ | r1
        · have hvt : 0 < v / 10 := by omega
          have hfr : (!decide (R = 0)) = false := by rw [r1]; rfl
          rw [hfr]
          clear hfr
          have HF : Hid (false = (!decide (R2 = 0))) := by show false = _; rw [decide_eq_true (HZR.out.2 ⟨r1, r2⟩)]; rfl
          have HVT := Lib.hid hvt
          have hv : ¬ v / 10 = 0 := by omega
          have m1 : ((v : Int) % 10 == 0) = true := beqT (by omega)
          have m2 : ((v : Int) % 10 != 0) = false := by simp only [bne, m1]; rfl
          have m3 : (v % 10 == 0) = true := by simpa using r2
          have d1 : ((v : Int) / 10 == 0) = false := beqF (by omega)
          have d2 : (v / 10 == 0) = false := by simpa using hv
          clear r1 r2 hv hvt
          go_wp2_with fail
          go_round
          case rel =>
            obtain ⟨i', e1, e2, rfl, h3, h4⟩ := HREL.out false HF.out (v / 10) rfl HVT.out
            exact ⟨i + 1, by rw [← e1]; congr 1, e2, by go_num, h3, h4⟩
          case measure => simp [uI]; omega
        · have HF : Hid (true = (!decide (R2 = 0))) := by show true = _; rw [decide_eq_false (fun h => r2 (HZR.out.1 h).2)]; rfl
          have hfr : (!decide (R = 0)) = false := by rw [r1]; rfl
          rw [hfr]
          clear hfr
          have m1 : ((v : Int) % 10 == 0) = false := beqF (by omega)
          have m2 : ((v : Int) % 10 != 0) = true := by simp only [bne, m1]; rfl
          have m3 : (v % 10 == 0) = false := by simpa using r2
          clear r1 r2
          by_cases hv : v / 10 = 0
          · have d1 : ((v : Int) / 10 == 0) = true := beqT (by omega)
            have d2 : (v / 10 == 0) = true := by simpa using hv
            have E1 := Lib.hid (HZ.out hv)
            clear hv
            go_wp2_with fail
            go_ret2
            exact ⟨by rw [E1.out.1, E1.out.2]; rfl, rfl⟩
          · have HVT : Hid (0 < v / 10) := by show 0 < v / 10; omega
            have d1 : ((v : Int) / 10 == 0) = false := beqF (by omega)
            have d2 : (v / 10 == 0) = false := by simpa using hv
            clear hv
            go_wp2_with fail
            go_round
            case rel =>
              obtain ⟨i', e1, e2, rfl, h3, h4⟩ := HREL.out true HF.out (v / 10) rfl HVT.out
              exact ⟨i + 1, by rw [← e1]; congr 1, e2, by go_num, h3, h4⟩
            case measure => simp [uI]; omega
        · have HF : Hid (true = (!decide (R2 = 0))) := by show true = _; rw [decide_eq_false (fun h => r1 (HZR.out.1 h).1)]; rfl
          have hfr : (!decide (R = 0)) = true := by rw [decide_eq_false r1]; rfl
          rw [hfr]
          clear hfr
          clear r1
          by_cases hv : v / 10 = 0
          · have d1 : ((v : Int) / 10 == 0) = true := beqT (by omega)
            have d2 : (v / 10 == 0) = true := by simpa using hv
            have E1 := Lib.hid (HZ.out hv)
            clear hv
            go_wp2_with fail
            go_ret2
            exact ⟨by rw [E1.out.1, E1.out.2]; rfl, rfl⟩
          · have HVT : Hid (0 < v / 10) := by show 0 < v / 10; omega
            have d1 : ((v : Int) / 10 == 0) = false := beqF (by omega)
            have d2 : (v / 10 == 0) = false := by simpa using hv
            clear hv
            go_wp2_with fail
            go_round
            case rel =>
              obtain ⟨i', e1, e2, rfl, h3, h4⟩ := HREL.out true HF.out (v / 10) rfl HVT.out
              exact ⟨i + 1, by rw [← e1]; congr 1, e2, by go_num, h3, h4⟩
            case measure => simp [uI]; omega
      · obtain rfl : i = s := by omega
        have HX : Hid (((negN A i : Nat) : Int) = (if A % 10 ^ i = 0 then ((A / 10 ^ i : Nat) : Int) else ((A / 10 ^ i + 1 : Nat) : Int)) ∧ exN A i = decide (A % 10 ^ i = 0)) := ⟨by unfold negN; split <;> rfl, rfl⟩
        have hbd : A / 10 ^ i + 1 ≤ 9223372036854775807 ∨ i = 0 := by
          rcases Nat.eq_zero_or_pos i with h | h
          · exact Or.inr h
          · left
            have : A / 10 ^ i ≤ A / 10 ^ 1 := Nat.div_le_div_left (Nat.pow_le_pow_right (by omega) h) (by omega)
            omega
        generalize A / 10 ^ i = v at *
        by_cases hR : A % 10 ^ i = 0
        · have e1 := HX.out
          rw [if_pos hR, decide_eq_true hR] at e1
          have E1 := Lib.hid e1
          rw [decide_eq_true hR]
          clear e1 HX hR
          go_wp2_with fail
          go_ret2
          exact ⟨by rw [E1.out.1, E1.out.2]; rfl, rfl⟩
        · have e1 := HX.out
          rw [if_neg hR, decide_eq_false hR] at e1
          have E1 := Lib.hid e1
          have hb2 : v + 1 ≤ 9223372036854775807 := by
            rcases hbd with h | h
            · exact h
            · subst h; exact absurd (by simp [Nat.mod_one]) hR
          rw [decide_eq_false hR]
          clear e1 HX hR hbd
          go_wp2_with fail
          go_ret2
          exact ⟨by rw [E1.out.1, E1.out.2, Int.natCast_add]; rfl, rfl⟩
set_option maxHeartbeats 4000000 in
theorem negScale_neg (A s : Nat) (hA : A ≤ 9223372036854775808) (h0 : 0 < A) (hs : s ≤ 1000) (w : World) : Calls Tryz.prog 115 #[.int .i64 (-((A : Nat) : Int)), .int .i32 (s : Int)] w (IntOk w (-((negN A s : Nat) : Int)) (exN A s)) := by
  by_cases c0 : s = 0
  · subst c0
    have e1 : negN A 0 = A := by simp [negN, Nat.mod_one]
    have e2 : exN A 0 = true := by simp [exN, Nat.mod_one]
    rw [e1, e2]
    have HA := Lib.hid hA
    clear e1 e2
    go_enter Tryz.func115, Tryz.ntmps115
    go_wp2_with fail
    go_ret2
    exact ⟨rfl, rfl⟩
  · have q0 : ((s : Int) == 0) = false := beqF (by omega)
    have HA0 := Lib.hid h0
    have H0A : Hid (A / 10 ^ 0 = A) := by show A / 10 ^ 0 = A; simp
    have HNZ : Hid (∀ i, i + 1 ≤ s → A / 10 ^ i / 10 = 0 → (-((negN A s : Nat) : Int)) = -1 ∧ exN A s = false) := fun i h1 h2 => by
      obtain ⟨g1, g2⟩ := neg_zero h1 h2
      rw [g1, g2, if_neg (by omega)]
      exact ⟨rfl, decide_eq_false (by omega)⟩
    have hgt : decide ((0 : Int) < -((A : Nat) : Int)) = false := decF (by omega)
    clear c0
    go_enter Tryz.func115, Tryz.ntmps115
    go_wp2_with fail
    go_loop [6, 7, 8] (fun v6 v7 v8 => ∃ i : Nat, v6 = .int .i64 (-((A / 10 ^ i : Nat) : Int)) ∧ v7 = .bool (!decide (A % 10 ^ i = 0)) ∧ v8 = .int .i32 (i : Int) ∧ i ≤ s ∧ 0 < A / 10 ^ i) (fun _ _ v8 => s - uI v8)
    case atStart => exact ⟨0, by rw [H0A.out], by simp [Nat.mod_one], rfl, by omega, by rw [H0A.out]; exact HA0.out⟩
    case round =>
      obtain ⟨i, rfl, rfl, rfl, hi, hv0⟩ := hrel
      have hvA : A / 10 ^ i ≤ A := Nat.div_le_self _ _
      rcases Nat.lt_or_ge i s with hlt | hge
      · have HD := Lib.hid (dec_step A i)
        have hr := rem_step A i
        have hp : 0 < 10 ^ i := Nat.pow_pos (by omega)
        have HZ := Lib.hid (HNZ.out i (by omega))
        have HRZ : Hid (A / 10 ^ i / 10 = 0 → A % 10 ^ (i + 1) = A) := rem_zero
        generalize A / 10 ^ i = v at *
        generalize hR : A % 10 ^ i = R at *
        generalize hR2 : A % 10 ^ (i + 1) = R2 at *
        have hz : R2 = 0 ↔ (R = 0 ∧ v % 10 = 0) := by
          rw [hr]
          constructor
          · intro h
            have h2 : 10 ^ i * (v % 10) = 0 := by omega
            rcases Nat.mul_eq_zero.1 h2 with h3 | h3
            · omega
            · exact ⟨by omega, h3⟩
          · rintro ⟨h1, h2⟩
            rw [h1, h2]
            simp
        have HREL : Hid (∀ fr : Bool, fr = (!decide (R2 = 0)) → ∀ x : Nat, x = v / 10 → 0 < x → ∃ i' : Nat, Value.int IntKind.i64 (-((x : Nat) : Int)) = .int .i64 (-((A / 10 ^ i' : Nat) : Int)) ∧ Value.bool fr = .bool (!decide (A % 10 ^ i' = 0)) ∧ i' = i + 1 ∧ i' ≤ s ∧ 0 < A / 10 ^ i') := fun fr h1 x h2 h3 => ⟨i + 1, by rw [HD.out, h2], by rw [h1, hR2], rfl, by omega, by rw [HD.out, ← h2]; exact h3⟩
        have HZR := Lib.hid hz
        clear hr hp hz hR hR2
        have hcase : (R = 0 ∧ v % 10 = 0) ∨ (R = 0 ∧ v % 10 ≠ 0) ∨ R ≠ 0 := by omega
        rcases hcase with ⟨r1, r2⟩ | ⟨r1, r2⟩ | r1
        · have hvt : 0 < v / 10 := by omega
          have hfr : (!decide (R = 0)) = false := by rw [r1]; rfl
          rw [hfr]
          clear hfr
          have HF : Hid (false = (!decide (R2 = 0))) := by show false = _; rw [decide_eq_true (HZR.out.2 ⟨r1, r2⟩)]; rfl
          have HVT := Lib.hid hvt
          have hv : ¬ v / 10 = 0 := by omega
          have m0 : (-(v : Int)).tmod 10 = -((v : Int) % 10) := by rw [Int.neg_tmod, Int.tmod_eq_emod_of_nonneg (by omega)]
          have m1 : ((-(v : Int)).tmod 10 == 0) = true := by rw [m0]; exact beqT (by omega)
          have m2 : ((-(v : Int)).tmod 10 != 0) = false := by simp only [bne, m1]; rfl
          have m3 : (-((v : Int) % 10) == 0) = true := beqT (by omega)
          have m4 : (-((v : Int) % 10) != 0) = false := by simp only [bne, m3]; rfl
          have m5 : ((v : Int) % 10 == 0) = true := beqT (by omega)
          have m6 : ((v : Int) % 10 != 0) = false := by simp only [bne, m5]; rfl
          clear m0
          have d0 : (-(v : Int)).tdiv 10 = -((v : Int) / 10) := by rw [Int.neg_tdiv, Int.tdiv_eq_ediv_of_nonneg (by omega)]
          have d1 : (-((v : Int) / 10) == 0) = false := beqF (by omega)
          clear r1 r2 hv hvt
          go_wp2_with fail
          go_round
          case rel =>
            obtain ⟨i', e1, e2, rfl, h3, h4⟩ := HREL.out false HF.out (v / 10) rfl HVT.out
            exact ⟨i + 1, by rw [← e1]; congr 1, e2, by go_num, h3, h4⟩
          case measure => simp [uI]; omega
        · have HF : Hid (true = (!decide (R2 = 0))) := by show true = _; rw [decide_eq_false (fun h => r2 (HZR.out.1 h).2)]; rfl
          have hfr : (!decide (R = 0)) = false := by rw [r1]; rfl
          rw [hfr]
          clear hfr
          have m0 : (-(v : Int)).tmod 10 = -((v : Int) % 10) := by rw [Int.neg_tmod, Int.tmod_eq_emod_of_nonneg (by omega)]
          have m1 : ((-(v : Int)).tmod 10 == 0) = false := by rw [m0]; exact beqF (by omega)
          have m2 : ((-(v : Int)).tmod 10 != 0) = true := by simp only [bne, m1]; rfl
          have m3 : (-((v : Int) % 10) == 0) = false := beqF (by omega)
          have m4 : (-((v : Int) % 10) != 0) = true := by simp only [bne, m3]; rfl
          have m5 : ((v : Int) % 10 == 0) = false := beqF (by omega)
          have m6 : ((v : Int) % 10 != 0) = true := by simp only [bne, m5]; rfl
          clear m0
          clear r1 r2
          by_cases hv : v / 10 = 0
          · have d0 : (-(v : Int)).tdiv 10 = -((v : Int) / 10) := by rw [Int.neg_tdiv, Int.tdiv_eq_ediv_of_nonneg (by omega)]
            have d1 : (-((v : Int) / 10) == 0) = true := beqT (by omega)
            have E1 := Lib.hid (HZ.out hv)
            clear hv
            go_wp2_with fail
            go_ret2
            exact ⟨by rw [E1.out.1, E1.out.2]; rfl, rfl⟩
          · have HVT : Hid (0 < v / 10) := by show 0 < v / 10; omega
            have d0 : (-(v : Int)).tdiv 10 = -((v : Int) / 10) := by rw [Int.neg_tdiv, Int.tdiv_eq_ediv_of_nonneg (by omega)]
            have d1 : (-((v : Int) / 10) == 0) = false := beqF (by omega)
            clear hv
            go_wp2_with fail
            go_round
            case rel =>
              obtain ⟨i', e1, e2, rfl, h3, h4⟩ := HREL.out true HF.out (v / 10) rfl HVT.out
              exact ⟨i + 1, by rw [← e1]; congr 1, e2, by go_num, h3, h4⟩
            case measure => simp [uI]; omega
        · have HF : Hid (true = (!decide (R2 = 0))) := by show true = _; rw [decide_eq_false (fun h => r1 (HZR.out.1 h).1)]; rfl
          have hfr : (!decide (R = 0)) = true := by rw [decide_eq_false r1]; rfl
          rw [hfr]
          clear hfr
          clear r1
          by_cases hv : v / 10 = 0
          · have d0 : (-(v : Int)).tdiv 10 = -((v : Int) / 10) := by rw [Int.neg_tdiv, Int.tdiv_eq_ediv_of_nonneg (by omega)]
            have d1 : (-((v : Int) / 10) == 0) = true := beqT (by omega)
            have E1 := Lib.hid (HZ.out hv)
            clear hv
            go_wp2_with fail
            go_ret2
            exact ⟨by rw [E1.out.1, E1.out.2]; rfl, rfl⟩
          · have HVT : Hid (0 < v / 10) := by show 0 < v / 10; omega
            have d0 : (-(v : Int)).tdiv 10 = -((v : Int) / 10) := by rw [Int.neg_tdiv, Int.tdiv_eq_ediv_of_nonneg (by omega)]
            have d1 : (-((v : Int) / 10) == 0) = false := beqF (by omega)
            clear hv
            go_wp2_with fail
            go_round
            case rel =>
              obtain ⟨i', e1, e2, rfl, h3, h4⟩ := HREL.out true HF.out (v / 10) rfl HVT.out
              exact ⟨i + 1, by rw [← e1]; congr 1, e2, by go_num, h3, h4⟩
            case measure => simp [uI]; omega
      · obtain rfl : i = s := by omega
        have HX : Hid ((-((negN A i : Nat) : Int)) = (if A % 10 ^ i = 0 then (-((A / 10 ^ i : Nat) : Int)) else (-((A / 10 ^ i + 1 : Nat) : Int))) ∧ exN A i = decide (A % 10 ^ i = 0)) := ⟨by unfold negN; split <;> rfl, rfl⟩
        have hbd : A / 10 ^ i + 1 ≤ 9223372036854775808 ∨ i = 0 := by
          rcases Nat.eq_zero_or_pos i with h | h
          · exact Or.inr h
          · left
            have : A / 10 ^ i ≤ A / 10 ^ 1 := Nat.div_le_div_left (Nat.pow_le_pow_right (by omega) h) (by omega)
            omega
        generalize A / 10 ^ i = v at *
        by_cases hR : A % 10 ^ i = 0
        · have e1 := HX.out
          rw [if_pos hR, decide_eq_true hR] at e1
          have E1 := Lib.hid e1
          rw [decide_eq_true hR]
          clear e1 HX hR
          go_wp2_with fail
          go_ret2
          exact ⟨by rw [E1.out.1, E1.out.2]; rfl, rfl⟩
        · have e1 := HX.out
          rw [if_neg hR, decide_eq_false hR] at e1
          have E1 := Lib.hid e1
          have hb2 : v + 1 ≤ 9223372036854775808 := by
            rcases hbd with h | h
            · exact h
            · subst h; exact absurd (by simp [Nat.mod_one]) hR
          rw [decide_eq_false hR]
          clear e1 HX hR hbd
          go_wp2_with fail
          go_ret2
          exact ⟨by rw [E1.out.1, E1.out.2, Int.natCast_add, Int.neg_add]; rfl, rfl⟩
theorem pow10_any (k : Nat) (h1 : 1 ≤ k) (h2 : k ≤ 17) (w : World) : Calls Tryz.prog 212 #[.int .i64 (k : Int)] w fun e w' => e = .returned (.int .i64 ((10 ^ k : Nat) : Int)) ∧ w = w' := by
  have hc : k = 1 ∨ k = 2 ∨ k = 3 ∨ k = 4 ∨ k = 5 ∨ k = 6 ∨ k = 7 ∨ k = 8 ∨ k = 9 ∨ k = 10 ∨ k = 11 ∨ k = 12 ∨ k = 13 ∨ k = 14 ∨ k = 15 ∨ k = 16 ∨ k = 17 := by omega
  clear h1 h2
  rcases hc with rfl | rfl | rfl | rfl | rfl | rfl | rfl | rfl | rfl | rfl | rfl | rfl | rfl | rfl | rfl | rfl | rfl
  all_goals
    go_enter Tryz.func212, Tryz.ntmps212
    go_wp2_with fail
    go_ret
    exact ⟨rfl, rfl⟩
def DivRes (w : World) (q r : Int) (k : Bool) (e : Ending) (w' : World) : Prop := e = .returned (.tuple #[.int .i64 q, .int .i64 r, .bool k]) ∧ Kept (fun _ => False) w w'
theorem divScale_any (a : Int) (s P : Nat) (hP : P = 10 ^ s) (h1 : 1 ≤ s) (h2 : s ≤ 17) (ha : -9223372036854775808 ≤ a ∧ a ≤ 9223372036854775807) (w : World) : Calls Tryz.prog 188 #[.int .i64 a, .int .i32 (s : Int)] w (DivRes w (a.tdiv (P : Int)) (a.tmod (P : Int)) true) := by
  have hp2 : P < 1000000000000000000 := by
    rw [hP]
    exact Nat.lt_of_le_of_lt (Nat.pow_le_pow_right (by omega) h2) (by decide)
  have hp1 : 10 ≤ P := by
    rw [hP]
    have := Nat.pow_le_pow_right (n := 10) (by omega) h1
    simpa using this
  have HPW := Lib.hid (fun w => pow10_any s h1 h2 w)
  rw [← hP] at HPW
  have q0 : ((s : Int) == 0) = false := beqF (by omega)
  have q1 : decide ((18 : Int) ≤ (s : Int)) = false := decF (by omega)
  have hq : -9223372036854775808 ≤ a.tdiv (P : Int) ∧ a.tdiv (P : Int) ≤ 9223372036854775807 := by
    rw [tdiv_if]
    have hb : ∀ y : Int, 0 ≤ y → 0 ≤ y / (P : Int) ∧ y / (P : Int) ≤ y := fun y hy => ⟨Int.ediv_nonneg hy (by omega), Int.ediv_le_self _ hy⟩
    split
    · have := hb a (by assumption); omega
    · have := hb (-a) (by omega); omega
  have q2 : ((P : Int) == 0) = false := beqF (by omega)
  have q3 : wrap64 (a.tdiv (P : Int)) = a.tdiv (P : Int) := by unfold wrap64; omega
  clear hP hq
  go_enter Tryz.func188, Tryz.ntmps188
  go_wp2_with fail
  refine (HPW.out _).mono ?_
  rintro e w1 ⟨rfl, rfl⟩
  go_wp2_with fail
  go_quiet (fail)
  go_wp2_with fail
  go_ret3
  exact ⟨rfl, (Kept.refl _ _).drewN _⟩
theorem divScale_big (a : Int) (s : Nat) (h1 : 18 ≤ s) (h2 : s ≤ 1000) (w : World) : Calls Tryz.prog 188 #[.int .i64 a, .int .i32 (s : Int)] w (DivRes w 0 a false) := by
  have q0 : ((s : Int) == 0) = false := beqF (by omega)
  have q1 : decide ((18 : Int) ≤ (s : Int)) = true := decT (by omega)
  go_enter Tryz.func188, Tryz.ntmps188
  go_wp2_with fail
  go_ret3
  exact ⟨rfl, Kept.refl _ _⟩
def FacRes (w : World) (n : Int) (k : Nat) (e : Ending) (w' : World) : Prop := e = .returned (.tuple #[.int .i64 n, .int .i32 (k : Int)]) ∧ w = w'
set_option maxHeartbeats 4000000 in
theorem fac10_pos (M k : Nat) (hM : M % 10 ≠ 0) (h : M * 10 ^ k ≤ 9223372036854775807) (w : World) : Calls Tryz.prog 191 #[.int .i64 ((M * 10 ^ k : Nat) : Int), .int .i64 10] w (FacRes w ((M : Nat) : Int) k) := by
  have hk : k < 64 := by
    rcases Nat.lt_or_ge k 64 with h' | h'
    · exact h'
    · have h1 : 2 ^ 64 ≤ 10 ^ k := Nat.le_trans (Nat.pow_le_pow_right (by omega) h') (Nat.pow_le_pow_left (by omega) k)
      have h2 : 1 * 10 ^ k ≤ M * 10 ^ k := Nat.mul_le_mul_right _ (by omega)
      omega
  have hM0 : 0 < M := by omega
  have HPOS : Hid (∀ i, i ≤ k → 0 < M * 10 ^ (k - i) ∧ M * 10 ^ (k - i) ≤ 9223372036854775807) := fun i hi => by
    have hp : 0 < 10 ^ (k - i) := Nat.pow_pos (by omega)
    have hq : 10 ^ (k - i) ≤ 10 ^ k := Nat.pow_le_pow_right (by omega) (by omega)
    exact ⟨Nat.mul_pos hM0 hp, Nat.le_trans (Nat.mul_le_mul_left M hq) h⟩
  have HST : Hid (∀ i, i < k → M * 10 ^ (k - i) = M * 10 ^ (k - (i + 1)) * 10) := fun i hi => by
    rw [Nat.mul_assoc, ← Nat.pow_succ, show k - i = (k - (i + 1)).succ by omega]
  have HE : Hid (M * 10 ^ (k - k) = M) := by show M * 10 ^ (k - k) = M; simp
  have h0 := HPOS.out 0 (by omega)
  rw [Nat.sub_zero] at h0
  obtain ⟨g1, g2⟩ := h0
  obtain ⟨X, hX⟩ : ∃ X, X = M * 10 ^ k := ⟨_, rfl⟩
  have HX : Hid (M * 10 ^ (k - 0) = X) := hX.symm
  rw [← hX] at g1 g2 h ⊢
  clear hX
  have gneg : decide ((X : Int) < 0) = false := decF (by omega)
  clear h
  go_enter Tryz.func191, Tryz.ntmps191
  go_wp2_with fail
  go_loop [4, 5] (fun v4 v5 => ∃ i : Nat, v4 = .int .i64 ((M * 10 ^ (k - i) : Nat) : Int) ∧ v5 = .int .i32 (i : Int) ∧ i ≤ k) (fun _ v5 => k - uI v5)
  case atStart => exact ⟨0, by rw [HX.out], rfl, by omega⟩
  case round =>
    obtain ⟨i, rfl, rfl, hi⟩ := hrel
    rcases Nat.lt_or_ge i k with hlt | hge
    · obtain ⟨p1, p2⟩ := HPOS.out i hi
      obtain ⟨p3, p4⟩ := HPOS.out (i + 1) hlt
      have hs := HST.out i hlt
      generalize hY : M * 10 ^ (k - (i + 1)) = Y at *
      generalize M * 10 ^ (k - i) = Z at *
      have HY := Lib.hid hY
      clear hY
      have m1 : decide ((10 : Int) ≤ (Z : Int)) = true := decT (by omega)
      have m1' : decide (10 ≤ Z) = true := decide_eq_true (by omega)
      have m2 : ((Z : Int) % 10 == 0) = true := beqT (by omega)
      have m2' : (Z % 10 == 0) = true := by simp; omega
      have m3 : (Z : Int) / 10 = (Y : Int) := by omega
      clear hs p3 p4
      go_wp2_with fail
      go_round
      case rel => exact ⟨i + 1, by rw [HY.out], by go_num, hlt⟩
      case measure => simp [uI]; omega
    · obtain rfl : i = k := by omega
      rw [HE.out]
      have hMX := (HPOS.out i (by omega)).2
      rw [HE.out] at hMX
      have m2 : ((M : Int) % 10 == 0) = false := beqF (by omega)
      have m4 : (M % 10 == 0) = false := by simpa using hM
      clear hM
      by_cases hb : 10 ≤ M
      · have m1 : decide ((10 : Int) ≤ (M : Int)) = true := decT (by omega)
        have m1' : decide (10 ≤ M) = true := decide_eq_true hb
        go_wp2_with fail
        go_ret2
        exact ⟨rfl, rfl⟩
      · have m1 : decide ((10 : Int) ≤ (M : Int)) = false := decF (by omega)
        have m1' : decide (10 ≤ M) = false := decide_eq_false hb
        go_wp2_with fail
        go_ret2
        exact ⟨rfl, rfl⟩
set_option maxHeartbeats 4000000 in
theorem fac10_neg (M k : Nat) (hM : M % 10 ≠ 0) (h : M * 10 ^ k ≤ 9223372036854775807) (w : World) : Calls Tryz.prog 191 #[.int .i64 (-((M * 10 ^ k : Nat) : Int)), .int .i64 10] w (FacRes w (-((M : Nat) : Int)) k) := by
  have hk : k < 64 := by
    rcases Nat.lt_or_ge k 64 with h' | h'
    · exact h'
    · have h1 : 2 ^ 64 ≤ 10 ^ k := Nat.le_trans (Nat.pow_le_pow_right (by omega) h') (Nat.pow_le_pow_left (by omega) k)
      have h2 : 1 * 10 ^ k ≤ M * 10 ^ k := Nat.mul_le_mul_right _ (by omega)
      omega
  have hM0 : 0 < M := by omega
  have HPOS : Hid (∀ i, i ≤ k → 0 < M * 10 ^ (k - i) ∧ M * 10 ^ (k - i) ≤ 9223372036854775807) := fun i hi => by
    have hp : 0 < 10 ^ (k - i) := Nat.pow_pos (by omega)
    have hq : 10 ^ (k - i) ≤ 10 ^ k := Nat.pow_le_pow_right (by omega) (by omega)
    exact ⟨Nat.mul_pos hM0 hp, Nat.le_trans (Nat.mul_le_mul_left M hq) h⟩
  have HST : Hid (∀ i, i < k → M * 10 ^ (k - i) = M * 10 ^ (k - (i + 1)) * 10) := fun i hi => by
    rw [Nat.mul_assoc, ← Nat.pow_succ, show k - i = (k - (i + 1)).succ by omega]
  have HE : Hid (M * 10 ^ (k - k) = M) := by show M * 10 ^ (k - k) = M; simp
  have h0 := HPOS.out 0 (by omega)
  rw [Nat.sub_zero] at h0
  obtain ⟨g1, g2⟩ := h0
  obtain ⟨X, hX⟩ : ∃ X, X = M * 10 ^ k := ⟨_, rfl⟩
  have HX : Hid (M * 10 ^ (k - 0) = X) := hX.symm
  rw [← hX] at g1 g2 h ⊢
  clear hX
  have gneg : decide (-(X : Int) < 0) = true := decT (by omega)
  clear h
  go_enter Tryz.func191, Tryz.ntmps191
  go_wp2_with fail
  go_loop [4, 5] (fun v4 v5 => ∃ i : Nat, v4 = .int .i64 ((M * 10 ^ (k - i) : Nat) : Int) ∧ v5 = .int .i32 (i : Int) ∧ i ≤ k) (fun _ v5 => k - uI v5)
  case atStart => exact ⟨0, by rw [HX.out], rfl, by omega⟩
  case round =>
    obtain ⟨i, rfl, rfl, hi⟩ := hrel
    rcases Nat.lt_or_ge i k with hlt | hge
    · obtain ⟨p1, p2⟩ := HPOS.out i hi
      obtain ⟨p3, p4⟩ := HPOS.out (i + 1) hlt
      have hs := HST.out i hlt
      generalize hY : M * 10 ^ (k - (i + 1)) = Y at *
      generalize M * 10 ^ (k - i) = Z at *
      have HY := Lib.hid hY
      clear hY
      have m1 : decide ((10 : Int) ≤ (Z : Int)) = true := decT (by omega)
      have m1' : decide (10 ≤ Z) = true := decide_eq_true (by omega)
      have m2 : ((Z : Int) % 10 == 0) = true := beqT (by omega)
      have m2' : (Z % 10 == 0) = true := by simp; omega
      have m3 : (Z : Int) / 10 = (Y : Int) := by omega
      clear hs p3 p4
      go_wp2_with fail
      go_round
      case rel => exact ⟨i + 1, by rw [HY.out], by go_num, hlt⟩
      case measure => simp [uI]; omega
    · obtain rfl : i = k := by omega
      rw [HE.out]
      have hMX := (HPOS.out i (by omega)).2
      rw [HE.out] at hMX
      have m2 : ((M : Int) % 10 == 0) = false := beqF (by omega)
      have m4 : (M % 10 == 0) = false := by simpa using hM
      clear hM
      by_cases hb : 10 ≤ M
      · have m1 : decide ((10 : Int) ≤ (M : Int)) = true := decT (by omega)
        have m1' : decide (10 ≤ M) = true := decide_eq_true hb
        go_wp2_with fail
        go_ret2
        exact ⟨rfl, rfl⟩
      · have m1 : decide ((10 : Int) ≤ (M : Int)) = false := decF (by omega)
        have m1' : decide (10 ≤ M) = false := decide_eq_false hb
        go_wp2_with fail
        go_ret2
        exact ⟨rfl, rfl⟩
set_option maxHeartbeats 4000000 in
theorem fac1024_pos (M k : Nat) (hM : M % 1024 ≠ 0) (h : M * 1024 ^ k ≤ 9223372036854775807) (w : World) : Calls Tryz.prog 191 #[.int .i64 ((M * 1024 ^ k : Nat) : Int), .int .i64 1024] w (FacRes w ((M : Nat) : Int) k) := by
  have hk : k < 64 := by
    rcases Nat.lt_or_ge k 64 with h' | h'
    · exact h'
    · have h1 : 2 ^ 64 ≤ 1024 ^ k := Nat.le_trans (Nat.pow_le_pow_right (by omega) h') (Nat.pow_le_pow_left (by omega) k)
      have h2 : 1 * 1024 ^ k ≤ M * 1024 ^ k := Nat.mul_le_mul_right _ (by omega)
      omega
  have hM0 : 0 < M := by omega
  have HPOS : Hid (∀ i, i ≤ k → 0 < M * 1024 ^ (k - i) ∧ M * 1024 ^ (k - i) ≤ 9223372036854775807) := fun i hi => by
    have hp : 0 < 1024 ^ (k - i) := Nat.pow_pos (by omega)
    have hq : 1024 ^ (k - i) ≤ 1024 ^ k := Nat.pow_le_pow_right (by omega) (by omega)
    exact ⟨Nat.mul_pos hM0 hp, Nat.le_trans (Nat.mul_le_mul_left M hq) h⟩
  have HST : Hid (∀ i, i < k → M * 1024 ^ (k - i) = M * 1024 ^ (k - (i + 1)) * 1024) := fun i hi => by
    rw [Nat.mul_assoc, ← Nat.pow_succ, show k - i = (k - (i + 1)).succ by omega]
  have HE : Hid (M * 1024 ^ (k - k) = M) := by show M * 1024 ^ (k - k) = M; simp
  have h0 := HPOS.out 0 (by omega)
  rw [Nat.sub_zero] at h0
  obtain ⟨g1, g2⟩ := h0
  obtain ⟨X, hX⟩ : ∃ X, X = M * 1024 ^ k := ⟨_, rfl⟩
  have HX : Hid (M * 1024 ^ (k - 0) = X) := hX.symm
  rw [← hX] at g1 g2 h ⊢
  clear hX
  have gneg : decide ((X : Int) < 0) = false := decF (by omega)
  clear h
  go_enter Tryz.func191, Tryz.ntmps191
  go_wp2_with fail
  go_loop [4, 5] (fun v4 v5 => ∃ i : Nat, v4 = .int .i64 ((M * 1024 ^ (k - i) : Nat) : Int) ∧ v5 = .int .i32 (i : Int) ∧ i ≤ k) (fun _ v5 => k - uI v5)
  case atStart => exact ⟨0, by rw [HX.out], rfl, by omega⟩
  case round =>
    obtain ⟨i, rfl, rfl, hi⟩ := hrel
    rcases Nat.lt_or_ge i k with hlt | hge
    · obtain ⟨p1, p2⟩ := HPOS.out i hi
      obtain ⟨p3, p4⟩ := HPOS.out (i + 1) hlt
      have hs := HST.out i hlt
      generalize hY : M * 1024 ^ (k - (i + 1)) = Y at *
      generalize M * 1024 ^ (k - i) = Z at *
      have HY := Lib.hid hY
      clear hY
      have m1 : decide ((1024 : Int) ≤ (Z : Int)) = true := decT (by omega)
      have m1' : decide (1024 ≤ Z) = true := decide_eq_true (by omega)
      have m2 : ((Z : Int) % 1024 == 0) = true := beqT (by omega)
      have m2' : (Z % 1024 == 0) = true := by simp; omega
      have m3 : (Z : Int) / 1024 = (Y : Int) := by omega
      clear hs p3 p4
      go_wp2_with fail
      go_round
      case rel => exact ⟨i + 1, by rw [HY.out], by go_num, hlt⟩
      case measure => simp [uI]; omega
    · obtain rfl : i = k := by omega
      rw [HE.out]
      have hMX := (HPOS.out i (by omega)).2
      rw [HE.out] at hMX
      have m2 : ((M : Int) % 1024 == 0) = false := beqF (by omega)
      have m4 : (M % 1024 == 0) = false := by simpa using hM
      clear hM
      by_cases hb : 1024 ≤ M
      · have m1 : decide ((1024 : Int) ≤ (M : Int)) = true := decT (by omega)
        have m1' : decide (1024 ≤ M) = true := decide_eq_true hb
        go_wp2_with fail
        go_ret2
        exact ⟨rfl, rfl⟩
      · have m1 : decide ((1024 : Int) ≤ (M : Int)) = false := decF (by omega)
        have m1' : decide (1024 ≤ M) = false := decide_eq_false hb
        go_wp2_with fail
        go_ret2
        exact ⟨rfl, rfl⟩
set_option maxHeartbeats 4000000 in
theorem fac1024_neg (M k : Nat) (hM : M % 1024 ≠ 0) (h : M * 1024 ^ k ≤ 9223372036854775807) (w : World) : Calls Tryz.prog 191 #[.int .i64 (-((M * 1024 ^ k : Nat) : Int)), .int .i64 1024] w (FacRes w (-((M : Nat) : Int)) k) := by
  have hk : k < 64 := by
    rcases Nat.lt_or_ge k 64 with h' | h'
    · exact h'
    · have h1 : 2 ^ 64 ≤ 1024 ^ k := Nat.le_trans (Nat.pow_le_pow_right (by omega) h') (Nat.pow_le_pow_left (by omega) k)
      have h2 : 1 * 1024 ^ k ≤ M * 1024 ^ k := Nat.mul_le_mul_right _ (by omega)
      omega
  have hM0 : 0 < M := by omega
  have HPOS : Hid (∀ i, i ≤ k → 0 < M * 1024 ^ (k - i) ∧ M * 1024 ^ (k - i) ≤ 9223372036854775807) := fun i hi => by
    have hp : 0 < 1024 ^ (k - i) := Nat.pow_pos (by omega)
    have hq : 1024 ^ (k - i) ≤ 1024 ^ k := Nat.pow_le_pow_right (by omega) (by omega)
    exact ⟨Nat.mul_pos hM0 hp, Nat.le_trans (Nat.mul_le_mul_left M hq) h⟩
  have HST : Hid (∀ i, i < k → M * 1024 ^ (k - i) = M * 1024 ^ (k - (i + 1)) * 1024) := fun i hi => by
    rw [Nat.mul_assoc, ← Nat.pow_succ, show k - i = (k - (i + 1)).succ by omega]
  have HE : Hid (M * 1024 ^ (k - k) = M) := by show M * 1024 ^ (k - k) = M; simp
  have h0 := HPOS.out 0 (by omega)
  rw [Nat.sub_zero] at h0
  obtain ⟨g1, g2⟩ := h0
  obtain ⟨X, hX⟩ : ∃ X, X = M * 1024 ^ k := ⟨_, rfl⟩
  have HX : Hid (M * 1024 ^ (k - 0) = X) := hX.symm
  rw [← hX] at g1 g2 h ⊢
  clear hX
  have gneg : decide (-(X : Int) < 0) = true := decT (by omega)
  clear h
  go_enter Tryz.func191, Tryz.ntmps191
  go_wp2_with fail
  go_loop [4, 5] (fun v4 v5 => ∃ i : Nat, v4 = .int .i64 ((M * 1024 ^ (k - i) : Nat) : Int) ∧ v5 = .int .i32 (i : Int) ∧ i ≤ k) (fun _ v5 => k - uI v5)
  case atStart => exact ⟨0, by rw [HX.out], rfl, by omega⟩
  case round =>
    obtain ⟨i, rfl, rfl, hi⟩ := hrel
    rcases Nat.lt_or_ge i k with hlt | hge
    · obtain ⟨p1, p2⟩ := HPOS.out i hi
      obtain ⟨p3, p4⟩ := HPOS.out (i + 1) hlt
      have hs := HST.out i hlt
      generalize hY : M * 1024 ^ (k - (i + 1)) = Y at *
      generalize M * 1024 ^ (k - i) = Z at *
      have HY := Lib.hid hY
      clear hY
      have m1 : decide ((1024 : Int) ≤ (Z : Int)) = true := decT (by omega)
      have m1' : decide (1024 ≤ Z) = true := decide_eq_true (by omega)
      have m2 : ((Z : Int) % 1024 == 0) = true := beqT (by omega)
      have m2' : (Z % 1024 == 0) = true := by simp; omega
      have m3 : (Z : Int) / 1024 = (Y : Int) := by omega
      clear hs p3 p4
      go_wp2_with fail
      go_round
      case rel => exact ⟨i + 1, by rw [HY.out], by go_num, hlt⟩
      case measure => simp [uI]; omega
    · obtain rfl : i = k := by omega
      rw [HE.out]
      have hMX := (HPOS.out i (by omega)).2
      rw [HE.out] at hMX
      have m2 : ((M : Int) % 1024 == 0) = false := beqF (by omega)
      have m4 : (M % 1024 == 0) = false := by simpa using hM
      clear hM
      by_cases hb : 1024 ≤ M
      · have m1 : decide ((1024 : Int) ≤ (M : Int)) = true := decT (by omega)
        have m1' : decide (1024 ≤ M) = true := decide_eq_true hb
        go_wp2_with fail
        go_ret2
        exact ⟨rfl, rfl⟩
      · have m1 : decide ((1024 : Int) ≤ (M : Int)) = false := decF (by omega)
        have m1' : decide (1024 ≤ M) = false := decide_eq_false hb
        go_wp2_with fail
        go_ret2
        exact ⟨rfl, rfl⟩
end Go.Proofs.YtjebnpkebccffaaGreatDoor
namespace Go.Proofs.YtjebnpkebccffaaGreatDoor
open Go.RowKit
def Tab10 (w : World) : Prop := Lib.TabIs Tryz.prog w "internal/strconv.uint64pow10" .u64 Lib.pow10Tab
theorem Tab10.old {w w' : World} (h : Tab10 w) (hk : Kept (fun _ => False) w w') : Tab10 w' := Lib.tabBelow_of_tabIs h w' hk.below
def itoaB (i : Int) : ByteArray := ⟨(Lib.itoa i).toArray⟩
def BytRes (w : World) (t : ByteArray) (e : Ending) (w' : World) : Prop := ∃ v, e = .returned v ∧ BytesAt w' v t ∧ Kept (fun _ => False) w w'
theorem libItoa_pos (i : Int) : 0 < (Lib.itoa i).length := by
  unfold Lib.itoa
  split
  · simp
  · unfold Lib.decDigits
    split <;> simp
theorem AppendInt_nil (i : Int) (w : World) (h0 : -9223372036854775808 ≤ i) (h1 : i ≤ 9223372036854775807) (ht : Tab10 w) : Calls Tryz.prog 192 #[.slice none 0 0, .int .i64 i, .int .i64 10] w (BytRes w (itoaB i)) := by
  refine (Tryz.strconv_AppendInt_10 w.heap.size 0 i h0 h1 (.slice none 0 0) [] w (World.ownsRow_nil _ _ _ _) (Nat.le_refl _) (by omega) (Lib.tabBelow_of_tabIs ht)).mono ?_
  rintro e w' ⟨v, rfl, hown, hb, -⟩
  refine ⟨v, rfl, ?_, Kept.ofBelow hb _⟩
  have hp := libItoa_pos i
  obtain ⟨hl, h⟩ := hown
  rcases h with ⟨rfl, hn⟩ | ⟨g, cap, cur, rfl, hg, hh, h2, h3, h4, h5⟩
  · omega
  · have hsz : (itoaB i).size = (Lib.itoa i).length := by unfold itoaB; show (Lib.itoa i).toArray.size = _; simp
    refine ⟨g, cap, cur, (0, 0), by rw [hsz, Nat.zero_add], hh, fun j hj => ?_⟩
    rw [hsz] at hj
    have h6 : (cur.toList.take ((0 + (Lib.itoa i).length) * 1))[j]? = some (.int .u8 ((itoaB i)[j]'(by rw [hsz]; exact hj)).toNat) := by
      rw [h5, List.nil_append]
      unfold Lib.byteCells
      rw [List.getElem?_map, List.getElem?_eq_getElem hj]
      rfl
    rw [List.getElem?_take, if_pos (by omega)] at h6
    simpa using h6
def CanB (w : World) (t : ByteArray) (E : Int) (e : Ending) (w' : World) : Prop := ∃ v, e = .returned (.tuple #[v, .int .i32 E]) ∧ BytesAt w' v t ∧ Kept (fun _ => False) w w'
theorem i32_wrap (n : Int) : IntKind.i32.wrap n = wrap32 n := by unfold wrap32; exact IntKind.wrap_i32 n
set_option maxHeartbeats 4000000 in
theorem amtCanon_pos (M k r : Nat) (s E : Int) (w : World) (hM : M % 10 ≠ 0) (hv : M * 10 ^ k ≤ 9223372036854775807) (hE : s + (k : Int) = E) (hs : -100 ≤ s ∧ s ≤ 100) (hEb : -100 ≤ E ∧ E ≤ 100) (hk : k < 64)
    (hr : r = 0 ∧ E.tmod 3 = 0 ∨ r = 1 ∧ (E.tmod 3 = 1 ∨ E.tmod 3 = -2) ∨ r = 2 ∧ (E.tmod 3 = 2 ∨ E.tmod 3 = -1)) (hf : M * 10 ^ r ≤ 9223372036854775807) (ht : Tab10 w) :
    Calls Tryz.prog 151 #[.agg #[.int .i64 ((M * 10 ^ k : Nat) : Int), .int .i32 s], .slice none 0 0] w (CanB w (itoaB ((M * 10 ^ r : Nat) : Int)) (E - (r : Int))) := by
  have k0 : Kept (fun _ => False) w (w.alloc (.cells #[.int .i64 ((M * 10 ^ k : Nat) : Int), .int .i32 s] 60)) := (Kept.refl _ _).alloc _
  have hb := heap_alloc_new w (.cells #[.int .i64 ((M * 10 ^ k : Nat) : Int), .int .i32 s] 60)
  have c0 : (w.alloc (.cells #[.int .i64 ((M * 10 ^ k : Nat) : Int), .int .i32 s] 60)).cell? ⟨w.heap.size, 0, none⟩ = some (.int .i64 ((M * 10 ^ k : Nat) : Int)) := by rw [cell_of hb]; rfl
  have c1 : (w.alloc (.cells #[.int .i64 ((M * 10 ^ k : Nat) : Int), .int .i32 s] 60)).cell? ⟨w.heap.size, 1, none⟩ = some (.int .i32 s) := by rw [cell_of hb]; rfl
  have HF := Lib.hid (fun w => fac10_pos M k hM hv w)
  have hM0 : M ≤ 9223372036854775807 := Nat.le_trans (Nat.le_mul_of_pos_right M (Nat.pow_pos (by omega))) hv
  have HT := Lib.hid ht
  have K0 := Lib.hid k0
  have HE := Lib.hid hE
  generalize hW : w.alloc (.cells #[.int .i64 ((M * 10 ^ k : Nat) : Int), .int .i32 s] 60) = W at *
  generalize M * 10 ^ k = X at *
  have e1 : IntKind.i32.wrap (s + (k : Int)) = E := by rw [hE, IntKind.wrap_i32]; omega
  have e2 : wrap32 (s + (k : Int)) = E := by rw [← i32_wrap]; exact e1
  clear hM hv hb k0 ht hE
  rcases hr with ⟨rfl, h3⟩ | ⟨rfl, h3⟩ | ⟨rfl, h3⟩
  · obtain ⟨T, hT⟩ : ∃ T, T = itoaB ((M * 10 ^ 0 : Nat) : Int) := ⟨_, rfl⟩
    obtain ⟨EE, hEE⟩ : ∃ EE, EE = E - (0 : Int) := ⟨_, rfl⟩
    have hgoal : E - ((0 : Nat) : Int) = EE := by rw [hEE]; rfl
    rw [← hT, hgoal]
    have ev : ((M * 10 ^ 0 : Nat) : Int) = ((M : Nat) : Int) := by omega
    rw [ev] at hT
    have HA : Hid (∀ w', Kept (fun _ => False) w w' → Calls Tryz.prog 192 #[.slice none 0 0, .int .i64 ((M : Nat) : Int), .int .i64 10] w' (BytRes w' T)) := fun w' hk => by
      rw [hT]
      exact AppendInt_nil _ w' (by omega) (by omega) (HT.out.old hk)
    have HEE := Lib.hid hEE
    have e3 : EE = E := by omega
    clear hT hEE hgoal ev
    have g1 : (E.tmod 3 == 1) = false := beqF (by omega)
    have g2 : (E.tmod 3 == -2) = false := beqF (by omega)
    have g3 : (E.tmod 3 == 2) = false := beqF (by omega)
    have g4 : (E.tmod 3 == -1) = false := beqF (by omega)
    clear h3 e3
    go_enter Tryz.func151, Tryz.ntmps151
    go_wp2_with fail
    refine (HF.out _).mono ?_
    rintro e w1 ⟨rfl, rfl⟩
    go_wp2_with fail
    have K1 := K0
    refine (HA.out _ K1.out).mono ?_
    rintro e w2 ⟨v, rfl, hby, hk2⟩
    have K2 := Lib.hid (K1.out.same hk2)
    have HBY := Lib.hid hby
    clear hby hk2
    go_wp2_with fail
    go_ret2
    exact ⟨v, by rw [HEE.out]; simp, HBY.out, K2.out⟩
  · obtain ⟨T, hT⟩ : ∃ T, T = itoaB ((M * 10 ^ 1 : Nat) : Int) := ⟨_, rfl⟩
    obtain ⟨EE, hEE⟩ : ∃ EE, EE = E - (1 : Int) := ⟨_, rfl⟩
    have hgoal : E - ((1 : Nat) : Int) = EE := by rw [hEE]; rfl
    rw [← hT, hgoal]
    have ev : ((M * 10 ^ 1 : Nat) : Int) = (((M : Nat) : Int) * 10) := by omega
    rw [ev] at hT
    have HA : Hid (∀ w', Kept (fun _ => False) w w' → Calls Tryz.prog 192 #[.slice none 0 0, .int .i64 (((M : Nat) : Int) * 10), .int .i64 10] w' (BytRes w' T)) := fun w' hk => by
      rw [hT]
      exact AppendInt_nil _ w' (by omega) (by omega) (HT.out.old hk)
    have HM2 : Hid (∀ w', Calls Tryz.prog 152 #[.int .i64 ((M : Nat) : Int)] w' (MulRes w' (((M : Nat) : Int) * 10))) := fun w' => mul10_any _ w' (by omega) (by omega)
    have HB2 : Hid (-9223372036854775807 ≤ (((M : Nat) : Int) * 10) ∧ (((M : Nat) : Int) * 10) ≤ 9223372036854775807) := by show -9223372036854775807 ≤ (((M : Nat) : Int) * 10) ∧ _; omega
    have HEE := Lib.hid hEE
    have e3 : wrap32 (E - 1) = EE := by rw [hEE]; unfold wrap32; omega
    clear hT hEE hgoal ev
    rcases h3 with h3 | h3
    · have g1 : (E.tmod 3 == 1) = true := beqT h3
      have g2 : (E.tmod 3 == -2) = false := beqF (by omega)
      have g3 : (E.tmod 3 == 2) = false := beqF (by omega)
      have g4 : (E.tmod 3 == -1) = false := beqF (by omega)
      clear h3
      go_enter Tryz.func151, Tryz.ntmps151
      go_wp2_with fail
      refine (HF.out _).mono ?_
      rintro e w1 ⟨rfl, rfl⟩
      go_wp2_with fail
      refine (HM2.out _).mono ?_
      intro e w1 hr
      obtain ⟨rfl, hk1⟩ := hr.fits HB2.out.1 HB2.out.2
      have K1 := Lib.hid (K0.out.same hk1)
      clear hr hk1
      generalize (((M : Nat) : Int) * 10) = VV at *
      go_wp2_with fail
      refine (HA.out _ K1.out).mono ?_
      rintro e w2 ⟨v, rfl, hby, hk2⟩
      have K2 := Lib.hid (K1.out.same hk2)
      have HBY := Lib.hid hby
      clear hby hk2
      go_wp2_with fail
      go_ret2
      exact ⟨v, by rw [HEE.out]; first | rfl | (simp; done), HBY.out, K2.out⟩
    · have g1 : (E.tmod 3 == -2) = true := beqT h3
      have g2 : (E.tmod 3 == 1) = false := beqF (by omega)
      have g3 : (E.tmod 3 == 2) = false := beqF (by omega)
      have g4 : (E.tmod 3 == -1) = false := beqF (by omega)
      clear h3
      go_enter Tryz.func151, Tryz.ntmps151
      go_wp2_with fail
      refine (HF.out _).mono ?_
      rintro e w1 ⟨rfl, rfl⟩
      go_wp2_with fail
      refine (HM2.out _).mono ?_
      intro e w1 hr
      obtain ⟨rfl, hk1⟩ := hr.fits HB2.out.1 HB2.out.2
      have K1 := Lib.hid (K0.out.same hk1)
      clear hr hk1
      generalize (((M : Nat) : Int) * 10) = VV at *
      go_wp2_with fail
      refine (HA.out _ K1.out).mono ?_
      rintro e w2 ⟨v, rfl, hby, hk2⟩
      have K2 := Lib.hid (K1.out.same hk2)
      have HBY := Lib.hid hby
      clear hby hk2
      go_wp2_with fail
      go_ret2
      exact ⟨v, by rw [HEE.out]; first | rfl | (simp; done), HBY.out, K2.out⟩
  · obtain ⟨T, hT⟩ : ∃ T, T = itoaB ((M * 10 ^ 2 : Nat) : Int) := ⟨_, rfl⟩
    obtain ⟨EE, hEE⟩ : ∃ EE, EE = E - (2 : Int) := ⟨_, rfl⟩
    have hgoal : E - ((2 : Nat) : Int) = EE := by rw [hEE]; rfl
    rw [← hT, hgoal]
    have ev : ((M * 10 ^ 2 : Nat) : Int) = (((M : Nat) : Int) * 100) := by omega
    rw [ev] at hT
    have HA : Hid (∀ w', Kept (fun _ => False) w w' → Calls Tryz.prog 192 #[.slice none 0 0, .int .i64 (((M : Nat) : Int) * 100), .int .i64 10] w' (BytRes w' T)) := fun w' hk => by
      rw [hT]
      exact AppendInt_nil _ w' (by omega) (by omega) (HT.out.old hk)
    have HM2 : Hid (∀ w', Calls Tryz.prog 153 #[.int .i64 ((M : Nat) : Int)] w' (MulRes w' (((M : Nat) : Int) * 100))) := fun w' => mul100_any _ w' (by omega) (by omega)
    have HB2 : Hid (-9223372036854775807 ≤ (((M : Nat) : Int) * 100) ∧ (((M : Nat) : Int) * 100) ≤ 9223372036854775807) := by show -9223372036854775807 ≤ (((M : Nat) : Int) * 100) ∧ _; omega
    have HEE := Lib.hid hEE
    have e3 : wrap32 (E - 2) = EE := by rw [hEE]; unfold wrap32; omega
    clear hT hEE hgoal ev
    rcases h3 with h3 | h3
    · have g1 : (E.tmod 3 == 2) = true := beqT h3
      have g2 : (E.tmod 3 == -1) = false := beqF (by omega)
      have g3 : (E.tmod 3 == 1) = false := beqF (by omega)
      have g4 : (E.tmod 3 == -2) = false := beqF (by omega)
      clear h3
      go_enter Tryz.func151, Tryz.ntmps151
      go_wp2_with fail
      refine (HF.out _).mono ?_
      rintro e w1 ⟨rfl, rfl⟩
      go_wp2_with fail
      refine (HM2.out _).mono ?_
      intro e w1 hr
      obtain ⟨rfl, hk1⟩ := hr.fits HB2.out.1 HB2.out.2
      have K1 := Lib.hid (K0.out.same hk1)
      clear hr hk1
      generalize (((M : Nat) : Int) * 100) = VV at *
      go_wp2_with fail
      refine (HA.out _ K1.out).mono ?_
      rintro e w2 ⟨v, rfl, hby, hk2⟩
      have K2 := Lib.hid (K1.out.same hk2)
      have HBY := Lib.hid hby
      clear hby hk2
      go_wp2_with fail
      go_ret2
      exact ⟨v, by rw [HEE.out]; first | rfl | (simp; done), HBY.out, K2.out⟩
    · have g1 : (E.tmod 3 == -1) = true := beqT h3
      have g2 : (E.tmod 3 == 2) = false := beqF (by omega)
      have g3 : (E.tmod 3 == 1) = false := beqF (by omega)
      have g4 : (E.tmod 3 == -2) = false := beqF (by omega)
      clear h3
      go_enter Tryz.func151, Tryz.ntmps151
      go_wp2_with fail
      refine (HF.out _).mono ?_
      rintro e w1 ⟨rfl, rfl⟩
      go_wp2_with fail
      refine (HM2.out _).mono ?_
      intro e w1 hr
      obtain ⟨rfl, hk1⟩ := hr.fits HB2.out.1 HB2.out.2
      have K1 := Lib.hid (K0.out.same hk1)
      clear hr hk1
      generalize (((M : Nat) : Int) * 100) = VV at *
      go_wp2_with fail
      refine (HA.out _ K1.out).mono ?_
      rintro e w2 ⟨v, rfl, hby, hk2⟩
      have K2 := Lib.hid (K1.out.same hk2)
      have HBY := Lib.hid hby
      clear hby hk2
      go_wp2_with fail
      go_ret2
      exact ⟨v, by rw [HEE.out]; first | rfl | (simp; done), HBY.out, K2.out⟩
set_option maxHeartbeats 4000000 in
theorem amtCanon_neg (M k r : Nat) (s E : Int) (w : World) (hM : M % 10 ≠ 0) (hv : M * 10 ^ k ≤ 9223372036854775807) (hE : s + (k : Int) = E) (hs : -100 ≤ s ∧ s ≤ 100) (hEb : -100 ≤ E ∧ E ≤ 100) (hk : k < 64)
    (hr : r = 0 ∧ E.tmod 3 = 0 ∨ r = 1 ∧ (E.tmod 3 = 1 ∨ E.tmod 3 = -2) ∨ r = 2 ∧ (E.tmod 3 = 2 ∨ E.tmod 3 = -1)) (hf : M * 10 ^ r ≤ 9223372036854775807) (ht : Tab10 w) :
    Calls Tryz.prog 151 #[.agg #[.int .i64 (-((M * 10 ^ k : Nat) : Int)), .int .i32 s], .slice none 0 0] w (CanB w (itoaB (-((M * 10 ^ r : Nat) : Int))) (E - (r : Int))) := by
  have k0 : Kept (fun _ => False) w (w.alloc (.cells #[.int .i64 (-((M * 10 ^ k : Nat) : Int)), .int .i32 s] 60)) := (Kept.refl _ _).alloc _
  have hb := heap_alloc_new w (.cells #[.int .i64 (-((M * 10 ^ k : Nat) : Int)), .int .i32 s] 60)
  have c0 : (w.alloc (.cells #[.int .i64 (-((M * 10 ^ k : Nat) : Int)), .int .i32 s] 60)).cell? ⟨w.heap.size, 0, none⟩ = some (.int .i64 (-((M * 10 ^ k : Nat) : Int))) := by rw [cell_of hb]; rfl
  have c1 : (w.alloc (.cells #[.int .i64 (-((M * 10 ^ k : Nat) : Int)), .int .i32 s] 60)).cell? ⟨w.heap.size, 1, none⟩ = some (.int .i32 s) := by rw [cell_of hb]; rfl
  have HF := Lib.hid (fun w => fac10_neg M k hM hv w)
  have hM0 : M ≤ 9223372036854775807 := Nat.le_trans (Nat.le_mul_of_pos_right M (Nat.pow_pos (by omega))) hv
  have HT := Lib.hid ht
  have K0 := Lib.hid k0
  have HE := Lib.hid hE
  generalize hW : w.alloc (.cells #[.int .i64 (-((M * 10 ^ k : Nat) : Int)), .int .i32 s] 60) = W at *
  generalize M * 10 ^ k = X at *
  have e1 : IntKind.i32.wrap (s + (k : Int)) = E := by rw [hE, IntKind.wrap_i32]; omega
  have e2 : wrap32 (s + (k : Int)) = E := by rw [← i32_wrap]; exact e1
  clear hM hv hb k0 ht hE
  rcases hr with ⟨rfl, h3⟩ | ⟨rfl, h3⟩ | ⟨rfl, h3⟩
  · obtain ⟨T, hT⟩ : ∃ T, T = itoaB (-((M * 10 ^ 0 : Nat) : Int)) := ⟨_, rfl⟩
    obtain ⟨EE, hEE⟩ : ∃ EE, EE = E - (0 : Int) := ⟨_, rfl⟩
    have hgoal : E - ((0 : Nat) : Int) = EE := by rw [hEE]; rfl
    rw [← hT, hgoal]
    have ev : (-((M * 10 ^ 0 : Nat) : Int)) = (-((M : Nat) : Int)) := by omega
    rw [ev] at hT
    have HA : Hid (∀ w', Kept (fun _ => False) w w' → Calls Tryz.prog 192 #[.slice none 0 0, .int .i64 (-((M : Nat) : Int)), .int .i64 10] w' (BytRes w' T)) := fun w' hk => by
      rw [hT]
      exact AppendInt_nil _ w' (by omega) (by omega) (HT.out.old hk)
    have HEE := Lib.hid hEE
    have e3 : EE = E := by omega
    clear hT hEE hgoal ev
    have g1 : (E.tmod 3 == 1) = false := beqF (by omega)
    have g2 : (E.tmod 3 == -2) = false := beqF (by omega)
    have g3 : (E.tmod 3 == 2) = false := beqF (by omega)
    have g4 : (E.tmod 3 == -1) = false := beqF (by omega)
    clear h3 e3
    go_enter Tryz.func151, Tryz.ntmps151
    go_wp2_with fail
    refine (HF.out _).mono ?_
    rintro e w1 ⟨rfl, rfl⟩
    go_wp2_with fail
    have K1 := K0
    refine (HA.out _ K1.out).mono ?_
    rintro e w2 ⟨v, rfl, hby, hk2⟩
    have K2 := Lib.hid (K1.out.same hk2)
    have HBY := Lib.hid hby
    clear hby hk2
    go_wp2_with fail
    go_ret2
    exact ⟨v, by rw [HEE.out]; simp, HBY.out, K2.out⟩
  · obtain ⟨T, hT⟩ : ∃ T, T = itoaB (-((M * 10 ^ 1 : Nat) : Int)) := ⟨_, rfl⟩
    obtain ⟨EE, hEE⟩ : ∃ EE, EE = E - (1 : Int) := ⟨_, rfl⟩
    have hgoal : E - ((1 : Nat) : Int) = EE := by rw [hEE]; rfl
    rw [← hT, hgoal]
    have ev : (-((M * 10 ^ 1 : Nat) : Int)) = ((-((M : Nat) : Int)) * 10) := by omega
    rw [ev] at hT
    have HA : Hid (∀ w', Kept (fun _ => False) w w' → Calls Tryz.prog 192 #[.slice none 0 0, .int .i64 ((-((M : Nat) : Int)) * 10), .int .i64 10] w' (BytRes w' T)) := fun w' hk => by
      rw [hT]
      exact AppendInt_nil _ w' (by omega) (by omega) (HT.out.old hk)
    have HM2 : Hid (∀ w', Calls Tryz.prog 152 #[.int .i64 (-((M : Nat) : Int))] w' (MulRes w' ((-((M : Nat) : Int)) * 10))) := fun w' => mul10_any _ w' (by omega) (by omega)
    have HB2 : Hid (-9223372036854775807 ≤ ((-((M : Nat) : Int)) * 10) ∧ ((-((M : Nat) : Int)) * 10) ≤ 9223372036854775807) := by show -9223372036854775807 ≤ ((-((M : Nat) : Int)) * 10) ∧ _; omega
    have HEE := Lib.hid hEE
    have e3 : wrap32 (E - 1) = EE := by rw [hEE]; unfold wrap32; omega
    clear hT hEE hgoal ev
    rcases h3 with h3 | h3
    · have g1 : (E.tmod 3 == 1) = true := beqT h3
      have g2 : (E.tmod 3 == -2) = false := beqF (by omega)
      have g3 : (E.tmod 3 == 2) = false := beqF (by omega)
      have g4 : (E.tmod 3 == -1) = false := beqF (by omega)
      clear h3
      go_enter Tryz.func151, Tryz.ntmps151
      go_wp2_with fail
      refine (HF.out _).mono ?_
      rintro e w1 ⟨rfl, rfl⟩
      go_wp2_with fail
      refine (HM2.out _).mono ?_
      intro e w1 hr
      obtain ⟨rfl, hk1⟩ := hr.fits HB2.out.1 HB2.out.2
      have K1 := Lib.hid (K0.out.same hk1)
      clear hr hk1
      generalize ((-((M : Nat) : Int)) * 10) = VV at *
      go_wp2_with fail
      refine (HA.out _ K1.out).mono ?_
      rintro e w2 ⟨v, rfl, hby, hk2⟩
      have K2 := Lib.hid (K1.out.same hk2)
      have HBY := Lib.hid hby
      clear hby hk2
      go_wp2_with fail
      go_ret2
      exact ⟨v, by rw [HEE.out]; first | rfl | (simp; done), HBY.out, K2.out⟩
    · have g1 : (E.tmod 3 == -2) = true := beqT h3
      have g2 : (E.tmod 3 == 1) = false := beqF (by omega)
      have g3 : (E.tmod 3 == 2) = false := beqF (by omega)
      have g4 : (E.tmod 3 == -1) = false := beqF (by omega)
      clear h3
      go_enter Tryz.func151, Tryz.ntmps151
      go_wp2_with fail
      refine (HF.out _).mono ?_
      rintro e w1 ⟨rfl, rfl⟩
      go_wp2_with fail
      refine (HM2.out _).mono ?_
      intro e w1 hr
      obtain ⟨rfl, hk1⟩ := hr.fits HB2.out.1 HB2.out.2
      have K1 := Lib.hid (K0.out.same hk1)
      clear hr hk1
      generalize ((-((M : Nat) : Int)) * 10) = VV at *
      go_wp2_with fail
      refine (HA.out _ K1.out).mono ?_
      rintro e w2 ⟨v, rfl, hby, hk2⟩
      have K2 := Lib.hid (K1.out.same hk2)
      have HBY := Lib.hid hby
      clear hby hk2
      go_wp2_with fail
      go_ret2
      exact ⟨v, by rw [HEE.out]; first | rfl | (simp; done), HBY.out, K2.out⟩
  · obtain ⟨T, hT⟩ : ∃ T, T = itoaB (-((M * 10 ^ 2 : Nat) : Int)) := ⟨_, rfl⟩
    obtain ⟨EE, hEE⟩ : ∃ EE, EE = E - (2 : Int) := ⟨_, rfl⟩
    have hgoal : E - ((2 : Nat) : Int) = EE := by rw [hEE]; rfl
    rw [← hT, hgoal]
    have ev : (-((M * 10 ^ 2 : Nat) : Int)) = ((-((M : Nat) : Int)) * 100) := by omega
    rw [ev] at hT
    have HA : Hid (∀ w', Kept (fun _ => False) w w' → Calls Tryz.prog 192 #[.slice none 0 0, .int .i64 ((-((M : Nat) : Int)) * 100), .int .i64 10] w' (BytRes w' T)) := fun w' hk => by
      rw [hT]
      exact AppendInt_nil _ w' (by omega) (by omega) (HT.out.old hk)
    have HM2 : Hid (∀ w', Calls Tryz.prog 153 #[.int .i64 (-((M : Nat) : Int))] w' (MulRes w' ((-((M : Nat) : Int)) * 100))) := fun w' => mul100_any _ w' (by omega) (by omega)
    have HB2 : Hid (-9223372036854775807 ≤ ((-((M : Nat) : Int)) * 100) ∧ ((-((M : Nat) : Int)) * 100) ≤ 9223372036854775807) := by show -9223372036854775807 ≤ ((-((M : Nat) : Int)) * 100) ∧ _; omega
    have HEE := Lib.hid hEE
    have e3 : wrap32 (E - 2) = EE := by rw [hEE]; unfold wrap32; omega
    clear hT hEE hgoal ev
    rcases h3 with h3 | h3
    · have g1 : (E.tmod 3 == 2) = true := beqT h3
      have g2 : (E.tmod 3 == -1) = false := beqF (by omega)
      have g3 : (E.tmod 3 == 1) = false := beqF (by omega)
      have g4 : (E.tmod 3 == -2) = false := beqF (by omega)
      clear h3
      go_enter Tryz.func151, Tryz.ntmps151
      go_wp2_with fail
      refine (HF.out _).mono ?_
      rintro e w1 ⟨rfl, rfl⟩
      go_wp2_with fail
      refine (HM2.out _).mono ?_
      intro e w1 hr
      obtain ⟨rfl, hk1⟩ := hr.fits HB2.out.1 HB2.out.2
      have K1 := Lib.hid (K0.out.same hk1)
      clear hr hk1
      generalize ((-((M : Nat) : Int)) * 100) = VV at *
      go_wp2_with fail
      refine (HA.out _ K1.out).mono ?_
      rintro e w2 ⟨v, rfl, hby, hk2⟩
      have K2 := Lib.hid (K1.out.same hk2)
      have HBY := Lib.hid hby
      clear hby hk2
      go_wp2_with fail
      go_ret2
      exact ⟨v, by rw [HEE.out]; first | rfl | (simp; done), HBY.out, K2.out⟩
    · have g1 : (E.tmod 3 == -1) = true := beqT h3
      have g2 : (E.tmod 3 == 2) = false := beqF (by omega)
      have g3 : (E.tmod 3 == 1) = false := beqF (by omega)
      have g4 : (E.tmod 3 == -2) = false := beqF (by omega)
      clear h3
      go_enter Tryz.func151, Tryz.ntmps151
      go_wp2_with fail
      refine (HF.out _).mono ?_
      rintro e w1 ⟨rfl, rfl⟩
      go_wp2_with fail
      refine (HM2.out _).mono ?_
      intro e w1 hr
      obtain ⟨rfl, hk1⟩ := hr.fits HB2.out.1 HB2.out.2
      have K1 := Lib.hid (K0.out.same hk1)
      clear hr hk1
      generalize ((-((M : Nat) : Int)) * 100) = VV at *
      go_wp2_with fail
      refine (HA.out _ K1.out).mono ?_
      rintro e w2 ⟨v, rfl, hby, hk2⟩
      have K2 := Lib.hid (K1.out.same hk2)
      have HBY := Lib.hid hby
      clear hby hk2
      go_wp2_with fail
      go_ret2
      exact ⟨v, by rw [HEE.out]; first | rfl | (simp; done), HBY.out, K2.out⟩
end Go.Proofs.YtjebnpkebccffaaGreatDoor
