import Derived.Test.YtjebnpkebccffaaGreatDoorKMem
import Derived.Maps.Own
import Derived.MapKept
set_option linter.unusedSimpArgs false
set_option linter.unusedVariables false
set_option linter.unusedSectionVars false
namespace Go.Proofs.YtjebnpkebccffaaGreatDoor
open Go.RowKit
section
variable {κ : Type} [DecidableEq κ]
def lkp (l : List (κ × Value)) (k : κ) (i : Nat) : Option (Nat × Value) :=
  match l with
  | [] => none
  | p :: ps => if p.1 = k then some (i, p.2) else lkp ps k (i + 1)
def putM (l : List (κ × Value)) (k : κ) (v : Value) : List (κ × Value) :=
  match l with
  | [] => [(k, v)]
  | p :: ps => if p.1 = k then (k, v) :: ps else p :: putM ps k v
def Ents (enc : κ → Value) (l : List (κ × Value)) (es : List MapEntry) : Prop := es.map (fun e => (e.key, e.val)) = l.map (fun p => (enc p.1, p.2))
def MapIs (enc : κ → Value) (w : World) (r : Nat) (l : List (κ × Value)) : Prop := ∃ es clock, w.heap[r]? = some (.map es clock) ∧ Ents enc l es.toList
structure KeyLaw' (enc : κ → Value) (kt : TypeId) : Prop where
  check : ∀ k e w, (Instr.checkKey e 10000 kt (enc k)).run Tryz.prog w = .ok () w
  find : ∀ k l es w, Ents enc l es → (Instr.findKey kt (enc k) es).run Tryz.prog w = .ok (lkp l k 0) w
  same : ∀ k, Instr.sameBits 10000 (enc k) (enc k) = true
theorem lkp_spec (l : List (κ × Value)) (k : κ) (i : Nat) : (lkp l k i = none ∧ putM l k = fun v => l ++ [(k, v)]) ∨ ∃ j v0, lkp l k i = some (i + j, v0) ∧ j < l.length ∧ l[j]? = some (k, v0) ∧ ∀ v, putM l k v = l.set j (k, v) := by
  induction l generalizing i with
  | nil => exact Or.inl ⟨rfl, rfl⟩
  | cons p ps ih =>
    by_cases h : p.1 = k
    · refine Or.inr ⟨0, p.2, by simp [lkp, h], by simp, ?_, fun v => by simp [putM, h]⟩
      obtain ⟨a, b⟩ := p
      simp at h ⊢
      exact h
    · rcases ih (i + 1) with ⟨h1, h2⟩ | ⟨j, v0, h1, h2, h3, h4⟩
      · refine Or.inl ⟨by simp [lkp, h, h1], ?_⟩
        funext v
        have := congrFun h2 v
        simp [putM, h, this]
      · refine Or.inr ⟨j + 1, v0, by simp [lkp, h, h1]; omega, by simp; omega, by simpa using h3, fun v => by simp [putM, h, h4]⟩
theorem run_update (enc : κ → Value) (mty kt et : TypeId) (hm : Tryz.prog.underlying mty = some (.map kt et)) (K : KeyLaw' enc kt) (w : World) (r : Nat) (l : List (κ × Value)) (h : MapIs enc w r l) (k : κ) (v : Value) :
    ∃ es clock, (Instr.mapUpdate mty (.map (some r)) (enc k) v).run Tryz.prog w = .ok () { w with heap := w.heap.setIfInBounds r (.map es clock) } ∧ Ents enc (putM l k v) es.toList := by
  obtain ⟨es, clock, hb, he⟩ := h
  have hf := K.find k l es.toList w he
  rcases lkp_spec l k 0 with ⟨h1, h2⟩ | ⟨j, v0, h1, h2, h3, h4⟩
  · rw [h1] at hf
    refine ⟨es.push { key := enc k, val := v, born := clock }, clock + 1, ?_, ?_⟩
    · simp [Instr.mapUpdate, run_underlying hm, MapKept.run_getObj_map hb, K.check, hf, MapKept.run_setObj_map _ hb, Result.andThen]
    · rw [congrFun h2 v]
      unfold Ents at *
      simp [he]
  · rw [h1] at hf
    have hlen : es.size = l.length := by
      have := congrArg List.length he
      simpa using this
    have hj : es[j]? = some (es[j]'(by omega)) := Array.getElem?_eq_getElem (by omega)
    have hkey : (es[j]'(by omega)).key = enc k := by
      have := congrArg (fun x => x[j]?) he
      simp [h3, hj] at this
      exact this.1
    refine ⟨es.modify j fun e => { e with key := enc k, val := v }, clock, ?_, ?_⟩
    · simp [Instr.mapUpdate, run_underlying hm, MapKept.run_getObj_map hb, K.check, hf, MapKept.run_setObj_map _ hb, Result.andThen, hj, Instr.keyThatStays, hkey, K.same]
    · rw [h4]
      unfold Ents at *
      have e1 : (es.modify j fun e => { e with key := enc k, val := v }).toList.map (fun e => (e.key, e.val)) = (es.toList.map (fun e => (e.key, e.val))).set j (enc k, v) := by
        apply List.ext_getElem?
        intro i
        simp only [List.getElem?_map, Array.getElem?_toList, Array.getElem?_modify, List.getElem?_set, List.length_map, Array.length_toList]
        by_cases hij : j = i
        · subst hij
          rw [if_pos rfl, if_pos rfl, if_pos (by omega), hj]
          rfl
        · rw [if_neg hij, if_neg hij]
      rw [e1, he, List.map_set]
theorem map_block {enc : κ → Value} {w : World} {r : Nat} {l : List (κ × Value)} (h : MapIs enc w r l) : r < w.heap.size := by
  obtain ⟨es, clock, hb, _⟩ := h
  exact (Array.getElem?_eq_some_iff.1 hb).1
theorem run_look (enc : κ → Value) (mty kt et : TypeId) (hm : Tryz.prog.underlying mty = some (.map kt et)) (K : KeyLaw' enc kt) (w : World) (r : Nat) (l : List (κ × Value)) (h : MapIs enc w r l) (k : κ) (z : Value) (hz : (zeroValue et).run Tryz.prog w = .ok z w) :
    (Instr.lookup mty (.map (some r)) (enc k) true).run Tryz.prog w = .ok (.tuple #[((lkp l k 0).map (·.2)).getD z, .bool (lkp l k 0).isSome]) w := by
  obtain ⟨es, clock, hb, he⟩ := h
  have hf := K.find k l es.toList w he
  cases hl : lkp l k 0 with
  | none =>
    rw [hl] at hf
    simp [Instr.lookup, run_underlying hm, MapKept.run_getObj_map hb, K.check, hf, hz, Result.andThen]
  | some p =>
    rw [hl] at hf
    obtain ⟨i, v⟩ := p
    simp [Instr.lookup, run_underlying hm, MapKept.run_getObj_map hb, K.check, hf, Result.andThen]
end
def encS (s : ByteArray) : Value := .string s
def encP (p : Int × Int) : Value := .agg #[.int .i32 p.1, .int .i32 p.2]
theorem keyS (kt : TypeId) (hk : Tryz.prog.underlying kt = some .string) : KeyLaw' encS kt where
  check k e w := MapKept.run_checkKey (k := encS k) hk (by simp [MapKept.IsKey, encS]) e 9999
  find k l es w h := by
    refine MapKept.run_findKey hk ?_
    have aux : ∀ (l : List (ByteArray × Value)) (es : List MapEntry) (i : Nat), Ents encS l es → Instr.findNow .string (encS k) es i = some (lkp l k i) := by
      intro l
      induction l with
      | nil =>
        intro es i h
        cases es with
        | nil => rfl
        | cons e es => simp [Ents] at h
      | cons p ps ih =>
        intro es i h
        cases es with
        | nil => simp [Ents] at h
        | cons e es =>
          simp [Ents] at h
          obtain ⟨⟨h1, h2⟩, h3⟩ := h
          have ih' := ih es (i + 1) (by simpa [Ents] using h3)
          unfold Instr.findNow lkp
          rw [h1]
          by_cases hp : p.1 = k
          · have hb : (k == p.1) = true := (MapKept.bytes_beq _ _).2 hp.symm
            rw [if_pos hp]
            simp [encS, Instr.sameNow, hb, h2]
          · have hb : (k == p.1) = false := by
              cases hc : k == p.1
              · rfl
              · exact absurd ((MapKept.bytes_beq _ _).1 hc).symm hp
            rw [if_neg hp]
            simp [encS, Instr.sameNow, hb]
            exact ih'
    exact aux l es 0 h
  same k := (MapKept.bytes_beq k k).2 rfl
end Go.Proofs.YtjebnpkebccffaaGreatDoor
namespace Go.Proofs.YtjebnpkebccffaaGreatDoor
open Go.RowKit
theorem ckP (k : Int × Int) (e : Bool) (w : World) : (Instr.checkKey e 10000 155 (encP k)).run Tryz.prog w = .ok () w := by kernel_rfl
set_option maxRecDepth 100000 in
theorem eqP (a b c d : Int) (w : World) : (Op.equal 155 (.agg #[.int .i32 a, .int .i32 b]) (.agg #[.int .i32 c, .int .i32 d])).run Tryz.prog w = .ok (a == c && b == d) w := by
  have hS : Tryz.prog.underlying 155 = some (.struct (Tryz.prog.fieldsOf 155)) := by kernel_rfl
  have hp : Tryz.prog.stoodInHeld 155 = false := by kernel_rfl
  show (Op.equalIn (9999 + 1) 155 _ _).run Tryz.prog w = _
  rw [run_equalIn_agg w 9999 155 _ _ hS hp]
  simp only [Program.fieldsOf, Tryz.underlying155]
  go_simp
  by_cases h1 : a = c <;> by_cases h2 : b = d <;> simp [h1, h2]
set_option maxRecDepth 100000 in
theorem keyP : KeyLaw' encP 155 where
  check k e w := ckP k e w
  find k l es w h := by
    have hS : Tryz.prog.underlying 155 = some (.struct (Tryz.prog.fieldsOf 155)) := by kernel_rfl
    have aux : ∀ (l : List ((Int × Int) × Value)) (es : List MapEntry) (i : Nat), Ents encP l es → (Instr.findAsking 155 (encP k) es i).run Tryz.prog w = .ok (lkp l k i) w := by
      intro l
      induction l with
      | nil =>
        intro es i h
        cases es with
        | nil => rfl
        | cons e es => simp [Ents] at h
      | cons p ps ih =>
        intro es i h
        cases es with
        | nil => simp [Ents] at h
        | cons e es =>
          simp [Ents] at h
          obtain ⟨⟨h1, h2⟩, h3⟩ := h
          have ih' := ih es (i + 1) (by simpa [Ents] using h3)
          obtain ⟨⟨a, b⟩, v⟩ := p
          obtain ⟨c, d⟩ := k
          have he := eqP c d a b w
          unfold Instr.findAsking lkp
          simp only [encP] at h1
          simp only [h1, encP, Sem.run_bind, he, Result.andThen_ok]
          by_cases hp : (a, b) = (c, d)
          · rw [if_pos hp]
            injection hp with hp1 hp2
            subst hp1 hp2
            simp [h2]
          · rw [if_neg hp]
            have : (c == a && d == b) = false := by
              cases hh : (c == a && d == b)
              · rfl
              · simp at hh
                exact absurd (by rw [hh.1, hh.2]) hp
            simp only [this]
            exact ih'
    have hnow : Instr.findNow (.struct (Tryz.prog.fieldsOf 155)) (encP k) es 0 = if es = [] then some none else none := by
      cases es with
      | nil => rfl
      | cons e es => simp [Instr.findNow, Instr.sameNow, encP]
    unfold Instr.findKey
    simp only [Sem.run_bind, run_underlying hS, Result.andThen_ok, hnow]
    by_cases hes : es = []
    · subst hes
      simp only [if_pos]
      exact aux l [] 0 h
    · simp only [if_neg hes]
      exact aux l es 0 h
  same k := by
    simp [encP, Instr.sameBits]
def BytesAt (w : World) (v : Value) (t : ByteArray) : Prop := ∃ g cap cs fr, v = .slice (some ⟨g, 0, none⟩) t.size cap ∧ w.heap[g]? = some (.cells cs 5 fr) ∧ ∀ j (h : j < t.size), cs[j]? = some (.int .u8 (t[j].toNat : Int))
def RelM (w : World) : List ((Int × Int) × Value) → List ((Int × Int) × ByteArray) → Prop
  | [], [] => True
  | p :: l, q :: m => p.1 = q.1 ∧ BytesAt w p.2 q.2 ∧ RelM w l m
  | _, _ => False
def putT (l : List ((Int × Int) × ByteArray)) (k : Int × Int) (v : ByteArray) : List ((Int × Int) × ByteArray) :=
  match l with
  | [] => [(k, v)]
  | p :: ps => if p.1 = k then (k, v) :: ps else p :: putT ps k v
def lkT (l : List ((Int × Int) × ByteArray)) (k : Int × Int) : Option ByteArray :=
  match l with
  | [] => none
  | p :: ps => if p.1 = k then some p.2 else lkT ps k
theorem RelM.put {w : World} {l : List ((Int × Int) × Value)} {m : List ((Int × Int) × ByteArray)} (h : RelM w l m) (k : Int × Int) {v : Value} {t : ByteArray} (hv : BytesAt w v t) : RelM w (putM l k v) (putT m k t) := by
  induction l generalizing m with
  | nil =>
    cases m with
    | nil => exact ⟨rfl, hv, trivial⟩
    | cons q m => exact absurd h (by simp [RelM])
  | cons p l ih =>
    cases m with
    | nil => exact absurd h (by simp [RelM])
    | cons q m =>
      obtain ⟨h1, h2, h3⟩ := h
      by_cases hk : p.1 = k
      · simp only [putM, putT, ← h1, if_pos hk]
        exact ⟨rfl, hv, h3⟩
      · simp only [putM, putT, ← h1, if_neg hk]
        exact ⟨h1, h2, ih h3⟩
theorem RelM.look {w : World} {l : List ((Int × Int) × Value)} {m : List ((Int × Int) × ByteArray)} (h : RelM w l m) (k : Int × Int) {t : ByteArray} (ht : lkT m k = some t) (i : Nat) : ∃ j v, lkp l k i = some (j, v) ∧ BytesAt w v t := by
  induction l generalizing m i with
  | nil =>
    cases m with
    | nil => simp [lkT] at ht
    | cons q m => exact absurd h (by simp [RelM])
  | cons p l ih =>
    cases m with
    | nil => exact absurd h (by simp [RelM])
    | cons q m =>
      obtain ⟨h1, h2, h3⟩ := h
      by_cases hk : p.1 = k
      · simp only [lkT, ← h1, if_pos hk] at ht
        injection ht with ht
        subst ht
        exact ⟨i, p.2, by simp only [lkp, if_pos hk], h2⟩
      · simp only [lkT, ← h1, if_neg hk] at ht
        obtain ⟨j, v, e1, e2⟩ := ih h3 ht (i + 1)
        exact ⟨j, v, by simp only [lkp, if_neg hk]; exact e1, e2⟩
theorem RelM.mono {w w' : World} (hb : ∀ v t, BytesAt w v t → BytesAt w' v t) : ∀ {l : List ((Int × Int) × Value)} {m : List ((Int × Int) × ByteArray)}, RelM w l m → RelM w' l m
  | [], [], _ => trivial
  | _ :: _, _ :: _, h => ⟨h.1, hb _ _ h.2.1, RelM.mono hb h.2.2⟩
  | [], _ :: _, h => absurd h (by simp [RelM])
  | _ :: _, [], h => absurd h (by simp [RelM])
theorem BytesAt.kept {S : Nat → Prop} {w w' : World} {v : Value} {t : ByteArray} (h : BytesAt w v t) (hk : Kept S w w') (hS : ∀ g cs fr, w.heap[g]? = some (.cells cs 5 fr) → ¬ S g) : BytesAt w' v t := by
  obtain ⟨g, cap, cs, fr, h1, h2, h3⟩ := h
  exact ⟨g, cap, cs, fr, h1, by rw [hk.block g (heap_lt h2) (hS g cs fr h2)]; exact h2, h3⟩
theorem MapIs.kept {κ : Type} [DecidableEq κ] {enc : κ → Value} {S : Nat → Prop} {w w' : World} {r : Nat} {l : List (κ × Value)} (h : MapIs enc w r l) (hk : Kept S w w') (hS : ¬ S r) : MapIs enc w' r l := by
  have hl := map_block h
  obtain ⟨es, clock, h1, h2⟩ := h
  exact ⟨es, clock, by rw [hk.block r hl hS]; exact h1, h2⟩
theorem MapIs.new {κ : Type} [DecidableEq κ] (enc : κ → Value) (w : World) : MapIs enc (w.alloc (.map #[] 0)) w.heap.size [] := ⟨#[], 0, (MapKept.heap_alloc w _).1, by simp [Ents]⟩
structure Lst (w : World) (d o r1 r2 r3 : Nat) (l1 : List (ByteArray × Value)) (l2 : List ((Int × Int) × Value)) (tx : List ((Int × Int) × ByteArray)) : Prop where
  c0 : w.cell? ⟨d, o, none⟩ = some (.map (some r1))
  c1 : w.cell? ⟨d, o + 1, none⟩ = some (.map (some r2))
  c2 : w.cell? ⟨d, o + 2, none⟩ = some (.map (some r3))
  m1 : MapIs encS w r1 l1
  m2 : MapIs encP w r2 l2
  m3 : ∃ l3, MapIs encP w r3 l3 ∧ RelM w l3 tx
  o1 : d < r1
  o2 : r1 < r2
  o3 : r2 < r3
end Go.Proofs.YtjebnpkebccffaaGreatDoor
