/- Maps as functions: a map block reads as a function from keys to values. Own work for this seat. -/
import Derived.WalkKit
namespace Go.MapFns
open Go.RowKit

/-- What a key's type must answer. -/
structure KeyTy (P : Program) (kt : TypeId) (κ : Type) (eqk : κ → κ → Bool) (enc : κ → Value) : Prop where
  eqk_iff : ∀ a b, eqk a b = true ↔ a = b
  check : ∀ (w : World) (em : Bool) (k : κ), (Instr.checkKey em 10000 kt (enc k)).run P w = .ok () w
  same : ∀ k, Instr.sameBits 10000 (enc k) (enc k) = true
  find : ∀ (w : World) (k : κ) (es : List (κ × Value × Nat)),
    (Instr.findKey kt (enc k) (es.map fun t => (⟨enc t.1, t.2.1, t.2.2⟩ : MapEntry))).run P w =
      .ok ((es.findIdx? fun t => eqk k t.1).bind fun i => es[i]?.map fun t => (i, t.2.1)) w

section
variable {κ : Type}

def ents (enc : κ → Value) (l : List (κ × Value × Nat)) : Array MapEntry := (l.map fun t => (⟨enc t.1, t.2.1, t.2.2⟩ : MapEntry)).toArray

def Tidy (l : List (κ × Value × Nat)) (clock : Nat) : Prop := (l.map (·.1)).Nodup ∧ (l.map (·.2.2)).Nodup ∧ ∀ t ∈ l, t.2.2 < clock

def look (eqk : κ → κ → Bool) (l : List (κ × Value × Nat)) (k : κ) : Option Value := (l.find? fun t => eqk k t.1).map (·.2.1)

/-- Block b is a map that reads as the function f. -/
def MapFn (eqk : κ → κ → Bool) (enc : κ → Value) (w : World) (b : Nat) (f : κ → Option Value) : Prop :=
  ∃ l clock, w.heap[b]? = some (.map (ents enc l) clock) ∧ Tidy l clock ∧ ∀ k, look eqk l k = f k

/-- w' is w but for the blocks of which S holds, and for new blocks. -/
structure Chg (S : Nat → Prop) (w w' : World) : Prop where
  os : w'.os = w.os
  tape : w'.tape = w.tape
  output : w'.output = w.output
  size : w.heap.size ≤ w'.heap.size
  block : ∀ k, k < w.heap.size → ¬ S k → w'.heap[k]? = w.heap[k]?

theorem Chg.refl (S : Nat → Prop) (w : World) : Chg S w w := ⟨rfl, rfl, rfl, Nat.le_refl _, fun _ _ _ => rfl⟩
theorem Chg.trans {S : Nat → Prop} {a b c : World} (h : Chg S a b) (k : Chg S b c) : Chg S a c :=
  ⟨k.os.trans h.os, k.tape.trans h.tape, k.output.trans h.output, Nat.le_trans h.size k.size, fun i hi hs => (k.block i (Nat.lt_of_lt_of_le hi h.size) hs).trans (h.block i hi hs)⟩
theorem Chg.mono {S S' : Nat → Prop} {a b : World} (h : Chg S a b) (hs : ∀ k, k < a.heap.size → S k → S' k) : Chg S' a b :=
  ⟨h.os, h.tape, h.output, h.size, fun i hi hn => h.block i hi fun hk => hn (hs i hi hk)⟩
theorem Chg.below {S : Nat → Prop} {a b : World} {B : Nat} (h : Chg S a b) (hB : B ≤ a.heap.size) (hs : ∀ k, S k → B ≤ k) : Below B a b :=
  ⟨h.os, h.tape, h.output, h.size, fun i hi => h.block i (by omega) fun hk => by have := hs i hk; omega⟩
theorem Chg.alloc (S : Nat → Prop) (w : World) (o : Obj) : Chg S w (w.alloc o) :=
  ⟨rfl, rfl, rfl, by simp, fun k hk _ => Below.heap_alloc w o k hk⟩
theorem Chg.drew (S : Nat → Prop) (w : World) : Chg S w w.drew := ⟨rfl, rfl, rfl, Nat.le_refl _, fun _ _ _ => rfl⟩
theorem Chg.setCell {S : Nat → Prop} (w : World) (a : Addr) (v : Value) (h : S a.block) : Chg S w (w.setCell a v) :=
  ⟨rfl, rfl, rfl, by simp, fun k _ hn => heap_setCell_other w a k v (fun e => hn (e ▸ h))⟩

def setO (w : World) (b : Nat) (o : Obj) : World := { w with heap := w.heap.setIfInBounds b o }

theorem setO_same {w : World} {b : Nat} {o p : Obj} (h : w.heap[b]? = some p) : (setO w b o).heap[b]? = some o := by
  have hb := (Array.getElem?_eq_some_iff.1 h).1
  simp [setO, hb]
theorem setO_other {w : World} {b k : Nat} {o : Obj} (h : k ≠ b) : (setO w b o).heap[k]? = w.heap[k]? := by
  simp only [setO, Array.getElem?_setIfInBounds]
  rw [if_neg (fun e => h e.symm)]
theorem setO_size (w : World) (b : Nat) (o : Obj) : (setO w b o).heap.size = w.heap.size := by simp [setO]
theorem Chg.setO (w : World) (b : Nat) (o : Obj) : Chg (· = b) w (setO w b o) :=
  ⟨rfl, rfl, rfl, by simp [setO_size], fun _ _ hn => setO_other hn⟩

variable {P : Program} {kt et T : TypeId} {eqk : κ → κ → Bool} {enc : κ → Value}

theorem MapFn.congr {w w' : World} {b : Nat} {f : κ → Option Value} (h : MapFn eqk enc w b f) (hb : w'.heap[b]? = w.heap[b]?) : MapFn eqk enc w' b f := by
  obtain ⟨l, c, h1, h2⟩ := h
  exact ⟨l, c, hb.trans h1, h2⟩
theorem MapFn.ext {w : World} {b : Nat} {f g : κ → Option Value} (h : MapFn eqk enc w b f) (hb : ∀ k, f k = g k) : MapFn eqk enc w b g := by
  obtain ⟨l, c, h1, h2, h3⟩ := h
  exact ⟨l, c, h1, h2, fun k => (h3 k).trans (hb k)⟩
theorem MapFn.lt {w : World} {b : Nat} {f : κ → Option Value} (h : MapFn eqk enc w b f) : b < w.heap.size := by
  obtain ⟨l, c, h1, _⟩ := h
  exact (Array.getElem?_eq_some_iff.1 h1).1
theorem MapFn.made (w : World) : MapFn eqk enc (w.alloc (.map #[] 0)) w.heap.size (fun _ => none) :=
  ⟨[], 0, by rw [heap_alloc_new]; simp [ents], ⟨by simp, by simp, by simp⟩, fun _ => rfl⟩

theorem look_eq (l : List (κ × Value × Nat)) (k : κ) : ((l.findIdx? fun t => eqk k t.1).bind fun i => l[i]?.map fun t => (i, t.2.1)).map (·.2) = look eqk l k := by
  induction l with
  | nil => rfl
  | cons t l ih =>
    unfold look at ih ⊢
    rw [List.findIdx?_cons, List.find?_cons]
    cases h : eqk k t.1
    · simp only [Bool.false_eq_true, ↓reduceIte]
      rw [← ih]
      cases l.findIdx? fun t => eqk k t.1 <;> simp
      rfl
    · simp

/-- 'm[k]', 'v, ok := m[k]' -/
theorem run_lookup_fn (K : KeyTy P kt κ eqk enc) (hT : P.underlying T = some (.map kt et)) {w : World} {b : Nat} {f : κ → Option Value} (h : MapFn eqk enc w b f) {z : Value}
    (hz : (zeroValue et).run P w = .ok z w) (k : κ) (c : Bool) :
    (Instr.lookup T (.map (some b)) (enc k) c).run P w = .ok (if c then .tuple #[(f k).getD z, .bool (f k).isSome] else (f k).getD z) w := by
  obtain ⟨l, clock, h1, _, h3⟩ := h
  have hf := K.find w k l
  have hl := look_eq (eqk := eqk) l k
  rw [h3 k] at hl
  have hg : (getObj b).run P w = .ok (.map (ents enc l) clock) w := by simp [getObj, Sem.run, h1]
  have he : (ents enc l).toList = l.map fun t => (⟨enc t.1, t.2.1, t.2.2⟩ : MapEntry) := by simp [ents]
  simp only [Instr.lookup, Sem.run_bind, run_underlying hT, Result.andThen_ok, hg, Sem.run_pure, K.check, he, hf]
  cases hr : (l.findIdx? fun t => eqk k t.1).bind fun i => l[i]?.map fun t => (i, t.2.1) with
  | none => rw [hr] at hl; simp at hl; rw [← hl]; simp [hz]
  | some r => rw [hr] at hl; simp at hl; rw [← hl]; simp

def upd (eqk : κ → κ → Bool) (f : κ → Option Value) (k : κ) (v : Value) : κ → Option Value := fun x => if eqk x k then some v else f x
def del (eqk : κ → κ → Bool) (f : κ → Option Value) (k : κ) : κ → Option Value := fun x => if eqk x k then none else f x

/-- the list behind a store -/
def put (eqk : κ → κ → Bool) (l : List (κ × Value × Nat)) (clock : Nat) (k : κ) (v : Value) : List (κ × Value × Nat) :=
  match l.findIdx? (fun t => eqk k t.1) with
  | some i => l.modify i fun t => (k, v, t.2.2)
  | none => l ++ [(k, v, clock)]

theorem findIdx_some {l : List (κ × Value × Nat)} {k : κ} (he : ∀ a b, eqk a b = true ↔ a = b) {i : Nat} (h : l.findIdx? (fun t => eqk k t.1) = some i) :
    ∃ v n, l[i]? = some (k, v, n) := by
  rw [List.findIdx?_eq_some_iff_getElem] at h
  obtain ⟨hi, h1, _⟩ := h
  have := (he _ _).1 h1
  exact ⟨l[i].2.1, l[i].2.2, by rw [List.getElem?_eq_getElem hi, this]⟩

theorem look_some {l : List (κ × Value × Nat)} {k : κ} {v : Value} {n i : Nat} (he : ∀ a b, eqk a b = true ↔ a = b) (hn : (l.map (·.1)).Nodup) (h : l[i]? = some (k, v, n)) :
    look eqk l k = some v := by
  unfold look
  have hm : (k, v, n) ∈ l := List.mem_of_getElem? h
  cases hf : l.find? fun t => eqk k t.1 with
  | none => rw [List.find?_eq_none] at hf; exact absurd ((he k k).2 rfl) (by simpa using hf _ hm)
  | some t =>
    have h1 := List.find?_some hf
    have h2 := List.mem_of_find?_eq_some hf
    have h3 : k = t.1 := (he _ _).1 h1
    obtain ⟨k', v', n'⟩ := t
    simp only at h3
    subst h3
    have key : ∀ (l : List (κ × Value × Nat)), (l.map (·.1)).Nodup → (k, v, n) ∈ l → (k, v', n') ∈ l → v = v' := by
      intro l
      induction l with
      | nil => intro _ h _; simp at h
      | cons a l ih =>
        intro hd ha hb
        simp only [List.map_cons, List.nodup_cons] at hd
        rcases List.mem_cons.1 ha with rfl | ha'
        · rcases List.mem_cons.1 hb with hb | hb
          · simp at hb; exact hb.1.symm
          · exact absurd (List.mem_map.2 ⟨_, hb, rfl⟩) hd.1
        · rcases List.mem_cons.1 hb with e | hb'
          · exact absurd (List.mem_map.2 ⟨_, ha', by rw [← e]⟩) hd.1
          · exact ih hd.2 ha' hb'
    simp [key l hn hm h2]

theorem look_none {l : List (κ × Value × Nat)} {k : κ} (he : ∀ a b, eqk a b = true ↔ a = b) (h : k ∉ l.map (·.1)) : look eqk l k = none := by
  unfold look
  rw [List.find?_eq_none.2]
  · rfl
  · intro t ht e
    have := (he _ _).1 e
    exact h (List.mem_map.2 ⟨t, ht, this.symm⟩)

theorem look_append {l : List (κ × Value × Nat)} (m : List (κ × Value × Nat)) (k : κ) : look eqk (l ++ m) k = (look eqk l k).or (look eqk m k) := by
  unfold look
  rw [List.find?_append]
  cases l.find? fun t => eqk k t.1 <;> simp

theorem look_modify {l : List (κ × Value × Nat)} {k : κ} {v v0 : Value} {n i : Nat} (he : ∀ a b, eqk a b = true ↔ a = b) (hn : (l.map (·.1)).Nodup) (h : l[i]? = some (k, v0, n)) (x : κ) :
    look eqk (l.modify i fun t => (k, v, t.2.2)) x = if eqk x k then some v else look eqk l x := by
  induction l generalizing i with
  | nil => simp at h
  | cons a l ih =>
    cases i with
    | zero =>
      simp only [List.length_cons, Nat.zero_lt_succ, List.getElem?_eq_getElem, List.getElem_cons_zero, Option.some.injEq] at h
      subst h
      simp only [List.modify_zero_cons]
      unfold look
      rw [List.find?_cons, List.find?_cons]
      cases eqk x k <;> simp
    | succ i =>
      simp only [List.map_cons, List.nodup_cons] at hn
      have hi : l[i]? = some (k, v0, n) := by simpa using h
      have := ih hn.2 hi
      simp only [List.modify_succ_cons]
      unfold look at this ⊢
      rw [List.find?_cons, List.find?_cons]
      cases hx : eqk x a.1
      · exact this
      · have ha : x = a.1 := (he _ _).1 hx
        have hne : eqk x k = false := by
          cases hk : eqk x k
          · rfl
          · have : x = k := (he _ _).1 hk
            exact absurd (List.mem_map.2 ⟨_, List.mem_of_getElem? hi, by rw [← this, ha]⟩) hn.1
        simp [hne]

theorem modify_map_key {l : List (κ × Value × Nat)} {k : κ} {v v0 : Value} {n i : Nat} (h : l[i]? = some (k, v0, n)) :
    (l.modify i fun t => (k, v, t.2.2)).map (·.1) = l.map (·.1) ∧ (l.modify i fun t => (k, v, t.2.2)).map (·.2.2) = l.map (·.2.2) := by
  induction l generalizing i with
  | nil => simp at h
  | cons a l ih =>
    cases i with
    | zero =>
      simp only [List.length_cons, Nat.zero_lt_succ, List.getElem?_eq_getElem, List.getElem_cons_zero, Option.some.injEq] at h
      subst h
      simp
    | succ i =>
      have hi : l[i]? = some (k, v0, n) := by simpa using h
      have := ih hi
      simp [this.1, this.2]

theorem ents_modify (l : List (κ × Value × Nat)) (i : Nat) (k : κ) (v : Value) :
    ((ents enc l).modify i fun e => { e with key := enc k, val := v }) = ents enc (l.modify i fun t => (k, v, t.2.2)) := by
  unfold ents
  apply Array.ext_getElem?
  intro j
  simp only [Array.getElem?_modify, List.getElem?_toArray, List.getElem?_map, List.getElem?_modify]
  by_cases hij : i = j
  · subst hij
    cases l[i]? <;> simp
  · simp [hij]

theorem Tidy.put {l : List (κ × Value × Nat)} {clock : Nat} (h : Tidy l clock) (he : ∀ a b, eqk a b = true ↔ a = b) (k : κ) (v : Value) :
    Tidy (put eqk l clock k v) (clock + 1) ∧ ((l.findIdx? fun t => eqk k t.1).isSome = true → Tidy (put eqk l clock k v) clock) ∧ ∀ x, look eqk (put eqk l clock k v) x = if eqk x k then some v else look eqk l x := by
  obtain ⟨h1, h2, h3⟩ := h
  unfold MapFns.put
  cases hf : l.findIdx? fun t => eqk k t.1 with
  | some i =>
    obtain ⟨v0, n, hi⟩ := findIdx_some he hf
    obtain ⟨m1, m2⟩ := modify_map_key (v := v) hi
    have hb : ∀ t ∈ l.modify i fun t => (k, v, t.2.2), t.2.2 < clock := by
      intro t ht
      have : t.2.2 ∈ (l.modify i fun t => (k, v, t.2.2)).map (·.2.2) := List.mem_map.2 ⟨t, ht, rfl⟩
      rw [m2] at this
      obtain ⟨u, hu, e⟩ := List.mem_map.1 this
      rw [← e]
      exact h3 u hu
    exact ⟨⟨by rw [m1]; exact h1, by rw [m2]; exact h2, fun t ht => Nat.lt_succ_of_lt (hb t ht)⟩, fun _ => ⟨by rw [m1]; exact h1, by rw [m2]; exact h2, hb⟩, look_modify he h1 hi⟩
  | none =>
    have hk : ∀ t ∈ l, t.1 ≠ k := by
      intro t ht e
      rw [List.findIdx?_eq_none_iff] at hf
      have := hf t ht
      rw [(he k t.1).2 e.symm] at this
      cases this
    refine ⟨⟨?_, ?_, ?_⟩, fun h => by simp at h, ?_⟩
    · rw [List.map_append, List.nodup_append]
      refine ⟨h1, by simp, ?_⟩
      intro a ha b hb e
      obtain ⟨t, ht, rfl⟩ := List.mem_map.1 ha
      simp at hb
      exact hk t ht (e.trans hb)
    · rw [List.map_append, List.nodup_append]
      refine ⟨h2, by simp, ?_⟩
      intro a ha b hb e
      obtain ⟨t, ht, rfl⟩ := List.mem_map.1 ha
      simp at hb
      have := h3 t ht
      omega
    · intro t ht
      rcases List.mem_append.1 ht with ht | ht
      · exact Nat.lt_succ_of_lt (h3 t ht)
      · simp at ht; subst ht; exact Nat.lt_succ_self _
    · intro x
      rw [look_append]
      cases hx : eqk x k
      · have : look eqk [(k, v, clock)] x = none := by simp [look, hx]
        rw [this]; simp
      · have e : x = k := (he _ _).1 hx
        subst e
        rw [look_none he (fun hm => by obtain ⟨t, ht, e⟩ := List.mem_map.1 hm; exact hk t ht e)]
        simp [look, hx]

/-- 'm[k] = v' -/
theorem run_update_fn (K : KeyTy P kt κ eqk enc) (hT : P.underlying T = some (.map kt et)) {w : World} {b : Nat} {f : κ → Option Value} (h : MapFn eqk enc w b f) (k : κ) (v : Value) :
    ∃ o, (Instr.mapUpdate T (.map (some b)) (enc k) v).run P w = .ok () (setO w b o) ∧ MapFn eqk enc (setO w b o) b (upd eqk f k v) := by
  obtain ⟨l, clock, h1, h2, h3⟩ := h
  have hf := K.find w k l
  have hg : (getObj b).run P w = .ok (.map (ents enc l) clock) w := by simp [getObj, Sem.run, h1]
  have hs : ∀ o, (setObj b o).run P w = .ok () (setO w b o) := fun o => by simp [setObj, Sem.run, h1, setO]
  have he : (ents enc l).toList = l.map fun t => (⟨enc t.1, t.2.1, t.2.2⟩ : MapEntry) := by simp [ents]
  obtain ⟨p1, p2, p3⟩ := h2.put K.eqk_iff k v
  cases hr : l.findIdx? fun t => eqk k t.1 with
  | some i =>
    obtain ⟨v0, n, hi⟩ := findIdx_some K.eqk_iff hr
    refine ⟨.map (ents enc (put eqk l clock k v)) clock, ?_, put eqk l clock k v, clock, setO_same h1, p2 (by simp [hr]), fun x => by rw [p3 x, h3 x]; rfl⟩
    rw [hr] at hf
    simp only [Option.bind_some, hi, Option.map_some] at hf
    have hkey : (Option.map (·.key) (ents enc l)[i]?).getD (enc k) = enc k := by simp [ents, hi]
    have hm : put eqk l clock k v = l.modify i fun t => (k, v, t.2.2) := by simp [put, hr]
    simp only [Instr.mapUpdate, Sem.run_bind, run_underlying hT, Result.andThen_ok, hg, K.check, he, hf, hkey, Instr.keyThatStays, K.same, if_true, Sem.run_pure, hs, ents_modify, hm]
  | none =>
    refine ⟨.map (ents enc (put eqk l clock k v)) (clock + 1), ?_, put eqk l clock k v, clock + 1, setO_same h1, p1, fun x => by rw [p3 x, h3 x]; rfl⟩
    rw [hr] at hf
    simp only [Option.bind_none] at hf
    have hm : put eqk l clock k v = l ++ [(k, v, clock)] := by simp [put, hr]
    have hp : (ents enc l).push { key := enc k, val := v, born := clock } = ents enc (put eqk l clock k v) := by rw [hm]; simp [ents]
    simp only [Instr.mapUpdate, Sem.run_bind, run_underlying hT, Result.andThen_ok, hg, K.check, he, hf, hs, hp]

/-- the same, at every world that holds that block -/
theorem run_update_fn2 (K : KeyTy P kt κ eqk enc) (hT : P.underlying T = some (.map kt et)) {w : World} {b : Nat} {f : κ → Option Value} (h : MapFn eqk enc w b f) (k : κ) (v : Value) :
    ∃ o, ∀ w', w'.heap[b]? = w.heap[b]? → (Instr.mapUpdate T (.map (some b)) (enc k) v).run P w' = .ok () (setO w' b o) ∧ MapFn eqk enc (setO w' b o) b (upd eqk f k v) := by
  obtain ⟨l, clock, h1, h2, h3⟩ := h
  refine ⟨match l.findIdx? fun t => eqk k t.1 with | some _ => .map (ents enc (put eqk l clock k v)) clock | none => .map (ents enc (put eqk l clock k v)) (clock + 1), fun w' hw => ?_⟩
  have h1' := hw.trans h1
  have hf := K.find w' k l
  have hg : (getObj b).run P w' = .ok (.map (ents enc l) clock) w' := by simp [getObj, Sem.run, h1']
  have hs : ∀ o, (setObj b o).run P w' = .ok () (setO w' b o) := fun o => by simp [setObj, Sem.run, h1', setO]
  have he : (ents enc l).toList = l.map fun t => (⟨enc t.1, t.2.1, t.2.2⟩ : MapEntry) := by simp [ents]
  obtain ⟨p1, p2, p3⟩ := h2.put K.eqk_iff k v
  cases hr : l.findIdx? fun t => eqk k t.1 with
  | some i =>
    obtain ⟨v0, n, hi⟩ := findIdx_some K.eqk_iff hr
    refine ⟨?_, put eqk l clock k v, clock, setO_same h1', p2 (by simp [hr]), fun x => by rw [p3 x, h3 x]; rfl⟩
    rw [hr] at hf
    simp only [Option.bind_some, hi, Option.map_some] at hf
    have hkey : (Option.map (·.key) (ents enc l)[i]?).getD (enc k) = enc k := by simp [ents, hi]
    have hm : put eqk l clock k v = l.modify i fun t => (k, v, t.2.2) := by simp [put, hr]
    simp only [Instr.mapUpdate, Sem.run_bind, run_underlying hT, Result.andThen_ok, hg, K.check, he, hf, hkey, Instr.keyThatStays, K.same, if_true, Sem.run_pure, hs, ents_modify, hm]
  | none =>
    refine ⟨?_, put eqk l clock k v, clock + 1, setO_same h1', p1, fun x => by rw [p3 x, h3 x]; rfl⟩
    rw [hr] at hf
    simp only [Option.bind_none] at hf
    have hm : put eqk l clock k v = l ++ [(k, v, clock)] := by simp [put, hr]
    have hp : (ents enc l).push { key := enc k, val := v, born := clock } = ents enc (put eqk l clock k v) := by rw [hm]; simp [ents]
    simp only [Instr.mapUpdate, Sem.run_bind, run_underlying hT, Result.andThen_ok, hg, K.check, he, hf, hs, hp]

theorem run_makeMap_fn (t : TypeId) (w : World) : (Instr.makeMap t none).run P w = .ok (.map (some w.heap.size)) (w.alloc (.map #[] 0)) := by
  simp [Instr.makeMap]

/-! ### keys -/
theorem find_of_equal {d : TypeDesc} (hu : P.underlying kt = some d) (hnow : ∀ a b, Instr.sameNow d (enc a) (enc b) = none)
    (heq : ∀ (w : World) a b, (Op.equal kt (enc a) (enc b)).run P w = .ok (eqk a b) w) (w : World) (k : κ) (es : List (κ × Value × Nat)) :
    (Instr.findKey kt (enc k) (es.map fun t => (⟨enc t.1, t.2.1, t.2.2⟩ : MapEntry))).run P w =
      .ok ((es.findIdx? fun t => eqk k t.1).bind fun i => es[i]?.map fun t => (i, t.2.1)) w := by
  have ask : ∀ (es : List (κ × Value × Nat)) (i : Nat), (Instr.findAsking kt (enc k) (es.map fun t => (⟨enc t.1, t.2.1, t.2.2⟩ : MapEntry)) i).run P w =
      .ok ((es.findIdx? fun t => eqk k t.1).bind fun j => es[j]?.map fun t => (i + j, t.2.1)) w := by
    intro es
    induction es with
    | nil => intro i; simp [Instr.findAsking]
    | cons t es ih =>
      intro i
      simp only [List.map_cons, Instr.findAsking, Sem.run_bind, heq, Result.andThen_ok, List.findIdx?_cons]
      cases h : eqk k t.1
      · simp only [Bool.false_eq_true, if_false, ih]
        congr 1
        cases es.findIdx? fun t => eqk k t.1 <;> simp [Nat.add_comm, Nat.add_left_comm]
      · simp
  cases es with
  | nil => simp [Instr.findKey, run_underlying hu, Instr.findNow]
  | cons t es =>
    have := ask (t :: es) 0
    simp only [List.map_cons] at this ⊢
    simp only [Instr.findKey, Sem.run_bind, run_underlying hu, Result.andThen_ok, Instr.findNow, hnow]
    rw [this]
    simp

theorem int_key {q : IntKind} (hu : P.underlying kt = some (.int q)) : KeyTy P kt Int (· == ·) (fun a => .int q a) where
  eqk_iff := fun a b => by simp
  check := fun w em k => by
    show (Instr.checkKey em (9999 + 1) kt (.int q k)).run P w = _
    rw [Instr.checkKey]
    simp only [Sem.run_bind, run_underlying hu, Result.andThen_ok]
    rfl
  same := fun k => by
    show Instr.sameBits (9999 + 1) _ _ = true
    rw [Instr.sameBits]
    simp
  find := fun w k es => by
    have now : ∀ (es : List (Int × Value × Nat)) (i : Nat), Instr.findNow (.int q) (.int q k) (es.map fun t => (⟨.int q t.1, t.2.1, t.2.2⟩ : MapEntry)) i =
        some ((es.findIdx? fun t => k == t.1).bind fun j => es[j]?.map fun t => (i + j, t.2.1)) := by
      intro es
      induction es with
      | nil => intro i; simp [Instr.findNow]
      | cons t es ih =>
        intro i
        simp only [List.map_cons, Instr.findNow, Instr.sameNow, if_true, List.findIdx?_cons]
        cases h : k == t.1
        · simp only [ih, Bool.false_eq_true, if_false]
          congr 1
          cases es.findIdx? fun t => k == t.1 <;> simp [Nat.add_comm, Nat.add_left_comm]
        · simp
    simp [Instr.findKey, Sem.run_bind, run_underlying hu, now]

/-! ### ranging, with deletes -/
structure Rng (enc : κ → Value) (w : World) (r m : Nat) (l : List (κ × Value × Nat)) (clock : Nat) (seen : Array Nat) : Prop where
  map : w.heap[m]? = some (.map (ents enc l) clock)
  tidy : Tidy l clock
  iter : w.heap[r]? = some (.mapIter (some m) clock seen clock)

theorem run_range_fn (hT : P.underlying T = some (.map kt et)) {w : World} {m : Nat} {l : List (κ × Value × Nat)} {clock : Nat} (h : w.heap[m]? = some (.map (ents enc l) clock)) :
    (Instr.range T (.map (some m))).run P w = .ok (.pointer (some ⟨w.heap.size, 0, none⟩)) (w.alloc (.mapIter (some m) clock #[] clock)) := by
  have hg : (getObj m).run P w = .ok (.map (ents enc l) clock) w := by simp [getObj, Sem.run, h]
  simp [Instr.range, Sem.run_bind, run_underlying hT, hg]

theorem Rng.start {w : World} {m : Nat} {l : List (κ × Value × Nat)} {clock : Nat} (h : w.heap[m]? = some (.map (ents enc l) clock)) (ht : Tidy l clock) :
    Rng enc (w.alloc (.mapIter (some m) clock #[] clock)) w.heap.size m l clock #[] :=
  ⟨by rw [Below.heap_alloc _ _ _ (Array.getElem?_eq_some_iff.1 h).1]; exact h, ht, heap_alloc_new _ _⟩

def unseen (l : List (κ × Value × Nat)) (seen : Array Nat) : List (κ × Value × Nat) := l.filter fun t => !seen.contains t.2.2

theorem ents_filter (l : List (κ × Value × Nat)) (p : Nat → Bool) : (ents enc l).filter (fun e => p e.born) = ents enc (l.filter fun t => p t.2.2) := by
  simp [ents, List.filter_map, Function.comp_def]

theorem run_next_fn {w : World} {r m : Nat} {l : List (κ × Value × Nat)} {clock : Nat} {seen : Array Nat} (h : Rng enc w r m l clock seen) (ty : TypeId) :
    (unseen l seen = [] ∧ (Instr.next (.pointer (some ⟨r, 0, none⟩)) false ty).run P w = .ok (.tuple #[.bool false]) w) ∨
    ∃ t w0, t ∈ unseen l seen ∧ (w0 = w ∨ w0 = w.drew) ∧
      (Instr.next (.pointer (some ⟨r, 0, none⟩)) false ty).run P w = .ok (.tuple #[.bool true, enc t.1, t.2.1]) (setO w0 r (.mapIter (some m) clock (seen.push t.2.2) clock)) := by
  obtain ⟨h1, ⟨t1, t2, t3⟩, h2⟩ := h
  have hg : (getObj r).run P w = .ok (.mapIter (some m) clock seen clock) w := by simp [getObj, Sem.run, h2]
  have hm : (getObj m).run P w = .ok (.map (ents enc l) clock) w := by simp [getObj, Sem.run, h1]
  have hall : (!seen.isEmpty && !(ents enc l).isEmpty && (ents enc l).all (fun e => decide (e.born ≥ clock))) = false := by
    cases l with
    | nil => simp [ents]
    | cons t l =>
      have := t3 t (by simp)
      have hd : decide (clock ≤ t.2.2) = false := decide_eq_false (by omega)
      simp [ents]
      omega
  have e1 : (ents enc l).filter (fun e => !seen.contains e.born) = ents enc (unseen l seen) := ents_filter l (fun n => !seen.contains n)
  have hlt : ∀ t ∈ unseen l seen, t.2.2 < clock := fun t ht => t3 t (List.mem_filter.1 ht).1
  have e2 : (ents enc (unseen l seen)).filter (fun e => decide (e.born < clock)) = ents enc (unseen l seen) := by
    rw [ents_filter (unseen l seen) (fun n => decide (n < clock))]
    rw [List.filter_eq_self.2]
    intro t ht
    simpa using hlt t ht
  have e3 : (ents enc (unseen l seen)).filter (fun e => decide (e.born ≥ clock)) = #[] := by
    rw [ents_filter (unseen l seen) (fun n => decide (n ≥ clock))]
    rw [List.filter_eq_nil_iff.2]
    · rfl
    · intro t ht
      have := hlt t ht
      simp; omega
  have core : (Instr.next (.pointer (some ⟨r, 0, none⟩)) false ty).run P w =
      ((choose (.mapNext ((if (ents enc (unseen l seen)).isEmpty then #[none] else #[]) ++ ((ents enc (unseen l seen)).map some)).size)).run P w).andThen fun c w' =>
        (match ((if (ents enc (unseen l seen)).isEmpty then #[none] else #[]) ++ ((ents enc (unseen l seen)).map some))[c]? with
          | some (some e) => do
            setObj r (.mapIter (some m) clock (seen.push e.born) clock)
            pure (Value.tuple #[.bool true, e.key, e.val])
          | some none => pure (Value.tuple #[.bool false])
          | none => stuck "Next: no such candidate").run P w' := by
    simp only [Instr.next, Sem.run_bind, hg, hm, Result.andThen_ok, hall, Bool.false_eq_true, if_false, e1, e2, e3, Array.append_empty]
    rfl
  cases hu : unseen l seen with
  | nil =>
    left
    refine ⟨rfl, ?_⟩
    rw [core, hu]
    simp [ents, choose, Sem.run, Question.forced]
  | cons t0 rest =>
    right
    have hlen : (ents enc (t0 :: rest)).isEmpty = false := by simp [ents]
    rw [core, hu, hlen]
    have hsz : ((if false = true then #[none] else #[]) ++ ((ents enc (t0 :: rest)).map some)).size = rest.length + 1 := by simp [ents]
    obtain ⟨c, w0, hw0, hc, hrun⟩ : ∃ c w0, (w0 = w ∨ w0 = w.drew) ∧ c < rest.length + 1 ∧ (choose (.mapNext (rest.length + 1))).run P w = .ok c w0 := by
      by_cases hf : rest.length + 1 ≤ 1
      · exact ⟨0, w, .inl rfl, by omega, by simp [choose, Sem.run, Question.forced, hf]⟩
      · refine ⟨_, w.drew, .inr rfl, ?_, by simp [choose, Sem.run, Question.forced, hf]; rfl⟩
        simp [Question.cut]
        exact Nat.mod_lt _ (by omega)
    rw [hsz, hrun]
    have hget : ((if false = true then #[none] else #[]) ++ ((ents enc (t0 :: rest)).map some))[c]? = some (some ⟨enc ((t0 :: rest)[c]'(by simpa using hc)).1, ((t0 :: rest)[c]'(by simpa using hc)).2.1, ((t0 :: rest)[c]'(by simpa using hc)).2.2⟩) := by
      have e : (ents enc (t0 :: rest)).map some = ((t0 :: rest).map fun t => some (⟨enc t.1, t.2.1, t.2.2⟩ : MapEntry)).toArray := by simp [ents]
      rw [e]
      simp only [Bool.false_eq_true, if_false, Array.empty_append, List.getElem?_toArray, List.getElem?_map]
      rw [List.getElem?_eq_getElem (by simpa using hc)]
      rfl
    refine ⟨(t0 :: rest)[c]'(by simpa using hc), w0, List.getElem_mem _, hw0, ?_⟩
    simp only [Result.andThen_ok, hget]
    have h2' : w0.heap[r]? = some (.mapIter (some m) clock seen clock) := by rcases hw0 with rfl | rfl <;> exact h2
    simp [setObj, Sem.run, h2', setO]

theorem Rng.next {w w0 : World} {r m : Nat} {l : List (κ × Value × Nat)} {clock : Nat} {seen : Array Nat} (h : Rng enc w r m l clock seen) (n : Nat) (hw : w0 = w ∨ w0 = w.drew) :
    Rng enc (setO w0 r (.mapIter (some m) clock (seen.push n) clock)) r m l clock (seen.push n) := by
  have hh : w0.heap = w.heap := by rcases hw with rfl | rfl <;> rfl
  have hne : m ≠ r := fun e => by have := h.map; rw [e, h.iter] at this; cases this
  exact ⟨by rw [setO_other hne, hh]; exact h.map, h.tidy, setO_same (by rw [hh]; exact h.iter)⟩

theorem run_entry_fn {w : World} {r m : Nat} {l : List (κ × Value × Nat)} {clock : Nat} {seen : Array Nat} {t : κ × Value × Nat} (h : Rng enc w r m l clock (seen.push t.2.2)) (ht : t ∈ l) :
    (Instr.entry (.pointer (some ⟨r, 0, none⟩))).run P w = .ok (.tuple #[enc t.1, t.2.1]) w := by
  obtain ⟨h1, ⟨t1, t2, t3⟩, h2⟩ := h
  have hg : (getObj r).run P w = .ok (.mapIter (some m) clock (seen.push t.2.2) clock) w := by simp [getObj, Sem.run, h2]
  have hm : (getObj m).run P w = .ok (.map (ents enc l) clock) w := by simp [getObj, Sem.run, h1]
  have hf : (ents enc l).find? (fun e => e.born == t.2.2) = some ⟨enc t.1, t.2.1, t.2.2⟩ := by
    clear h1 hm t1 t3
    simp only [ents, List.find?_toArray]
    induction l with
    | nil => simp at ht
    | cons a l ih =>
      simp only [List.map_cons, List.nodup_cons] at t2
      rw [List.map_cons, List.find?_cons]
      rcases List.mem_cons.1 ht with rfl | ht'
      · simp
      · have : (a.2.2 == t.2.2) = false := by
          rw [beq_eq_false_iff_ne]
          intro e
          exact t2.1 (e ▸ List.mem_map.2 ⟨t, ht', rfl⟩)
        simp only [this]
        exact ih ht' t2.2
  simp [Instr.entry, Sem.run_bind, hg, hm, hf]

def drop (eqk : κ → κ → Bool) (l : List (κ × Value × Nat)) (k : κ) : List (κ × Value × Nat) := l.filter fun t => !eqk k t.1

theorem eraseIdx_eq {l : List (κ × Value × Nat)} {k : κ} {i : Nat} (he : ∀ a b, eqk a b = true ↔ a = b) (hn : (l.map (·.1)).Nodup) (h : l.findIdx? (fun t => eqk k t.1) = some i) :
    l.eraseIdx i = drop eqk l k := by
  induction l generalizing i with
  | nil => simp at h
  | cons a l ih =>
    simp only [List.map_cons, List.nodup_cons] at hn
    rw [List.findIdx?_cons] at h
    unfold drop
    rw [List.filter_cons]
    cases hk : eqk k a.1
    · rw [hk] at h
      simp only [Bool.false_eq_true, if_false] at h
      cases hj : l.findIdx? fun t => eqk k t.1 with
      | none => rw [hj] at h; simp at h
      | some j =>
        rw [hj] at h
        simp at h
        subst h
        simp only [List.eraseIdx_cons_succ, Bool.not_false, if_true]
        rw [ih hn.2 hj]; rfl
    · rw [hk] at h
      simp at h
      subst h
      simp only [List.eraseIdx_cons_zero, Bool.not_true, Bool.false_eq_true, if_false]
      symm
      rw [List.filter_eq_self]
      intro t ht
      cases hx : eqk k t.1
      · rfl
      · have e1 := (he _ _).1 hk
        have e2 := (he _ _).1 hx
        exact absurd (List.mem_map.2 ⟨t, ht, e2.symm.trans e1⟩) hn.1

theorem erase_map {α β : Type} (f : α → β) (l : List α) (i : Nat) : (l.map f).eraseIdx i = (l.eraseIdx i).map f := by
  induction l generalizing i with
  | nil => simp
  | cons a l ih => cases i <;> simp [ih]

theorem run_delete_fn (K : KeyTy P kt κ eqk enc) (hT : P.underlying T = some (.map kt et)) {w : World} {m : Nat} {l : List (κ × Value × Nat)} {clock : Nat}
    (h : w.heap[m]? = some (.map (ents enc l) clock)) (ht : Tidy l clock) (k : κ) (T2 ty : TypeId) :
    (Builtin.delete_ #[T, T2] ty #[.map (some m), enc k]).run P w = .ok (.tuple #[]) (setO w m (.map (ents enc (drop eqk l k)) clock)) := by
  have hg : (getObj m).run P w = .ok (.map (ents enc l) clock) w := by simp [getObj, Sem.run, h]
  have hs : ∀ o, (setObj m o).run P w = .ok () (setO w m o) := fun o => by simp [setObj, Sem.run, h, setO]
  have he : (ents enc l).toList = l.map fun t => (⟨enc t.1, t.2.1, t.2.2⟩ : MapEntry) := by simp [ents]
  have hf := K.find w k l
  cases hr : l.findIdx? fun t => eqk k t.1 with
  | some i =>
    obtain ⟨v0, n, hi⟩ := findIdx_some K.eqk_iff hr
    rw [hr] at hf
    simp only [Option.bind_some, hi, Option.map_some] at hf
    have hlt : i < l.length := by
      rcases Nat.lt_or_ge i l.length with h | h
      · exact h
      · rw [List.getElem?_eq_none h] at hi; cases hi
    have hx : (ents enc l).eraseIdxIfInBounds i = ents enc (drop eqk l k) := by
      rw [← eraseIdx_eq K.eqk_iff ht.1 hr]
      unfold ents Array.eraseIdxIfInBounds
      simp [hlt, erase_map]
    simp [Builtin.delete_, Sem.run_bind, run_underlying hT, hg, K.check, he, hf, hx, hs]
  | none =>
    rw [hr] at hf
    simp only [Option.bind_none] at hf
    have hx : drop eqk l k = l := by
      unfold drop
      rw [List.filter_eq_self]
      intro t htm
      rw [List.findIdx?_eq_none_iff] at hr
      simp [hr t htm]
    simp [Builtin.delete_, Sem.run_bind, run_underlying hT, hg, K.check, he, hf, hx, hs]

theorem Tidy.drop {l : List (κ × Value × Nat)} {clock : Nat} (h : Tidy l clock) (k : κ) : Tidy (drop eqk l k) clock := by
  obtain ⟨h1, h2, h3⟩ := h
  unfold MapFns.drop
  exact ⟨h1.sublist (List.Sublist.map _ List.filter_sublist), h2.sublist (List.Sublist.map _ List.filter_sublist), fun t ht => h3 t (List.mem_filter.1 ht).1⟩

theorem Rng.drop {w : World} {r m : Nat} {l : List (κ × Value × Nat)} {clock : Nat} {seen : Array Nat} (h : Rng enc w r m l clock seen) (k : κ) :
    Rng enc (setO w m (.map (ents enc (drop eqk l k)) clock)) r m (MapFns.drop eqk l k) clock seen := by
  have hne : r ≠ m := fun e => by have := h.map; rw [← e, h.iter] at this; cases this
  exact ⟨setO_same h.map, h.tidy.drop k, by rw [setO_other hne]; exact h.iter⟩

theorem look_drop {l : List (κ × Value × Nat)} (he : ∀ a b, eqk a b = true ↔ a = b) (k x : κ) : look eqk (MapFns.drop eqk l k) x = if eqk x k then none else look eqk l x := by
  unfold look MapFns.drop
  rw [List.find?_filter]
  cases hx : eqk x k
  · simp only [Bool.false_eq_true, if_false]
    congr 2
    funext t
    cases hk : eqk k t.1
    · simp
    · have e := (he _ _).1 hk
      subst e
      simp [hx]
  · have e := (he _ _).1 hx
    subst e
    simp only [if_true]
    rw [List.find?_eq_none.2]
    · rfl
    · intro t _
      cases eqk x t.1 <;> simp

theorem born_inj {l : List (κ × Value × Nat)} (hn : (l.map (·.2.2)).Nodup) {u t : κ × Value × Nat} (hu : u ∈ l) (ht : t ∈ l) (e : u.2.2 = t.2.2) : u = t := by
  induction l with
  | nil => cases hu
  | cons a l ih =>
    simp only [List.map_cons, List.nodup_cons] at hn
    rcases List.mem_cons.1 hu with h1 | h1 <;> rcases List.mem_cons.1 ht with h2 | h2
    · rw [h1, h2]
    · rw [h1] at e; exact absurd (e ▸ List.mem_map.2 ⟨t, h2, rfl⟩) hn.1
    · rw [h2] at e; exact absurd (e ▸ List.mem_map.2 ⟨u, h1, rfl⟩) hn.1
    · exact ih hn.2 h1 h2

def leftOf (w : World) (m r : Nat) : Nat :=
  match w.heap[m]?, w.heap[r]? with
  | some (.map es _), some (.mapIter _ _ seen _) => (es.filter fun e => !seen.contains e.born).size
  | _, _ => 0

theorem Rng.left {w : World} {r m : Nat} {l : List (κ × Value × Nat)} {clock : Nat} {seen : Array Nat} (h : Rng enc w r m l clock seen) : leftOf w m r = (unseen l seen).length := by
  unfold leftOf
  rw [h.map, h.iter]
  show ((ents enc l).filter fun e => !seen.contains e.born).size = _
  rw [ents_filter l (fun n => !seen.contains n)]
  simp [ents, unseen]

theorem unseen_push {l : List (κ × Value × Nat)} {seen : Array Nat} {t : κ × Value × Nat} (h : t ∈ unseen l seen) : (unseen l (seen.push t.2.2)).length < (unseen l seen).length := by
  have e : unseen l (seen.push t.2.2) = (unseen l seen).filter fun u => !(u.2.2 == t.2.2) := by
    unfold unseen
    rw [List.filter_filter]
    congr 1
    funext u
    simp only [Array.contains_push]
    cases u.2.2 == t.2.2 <;> simp
  rw [e]
  exact List.length_filter_lt_length_iff_exists.2 ⟨t, h, by simp⟩

theorem unseen_drop_le {l : List (κ × Value × Nat)} {seen : Array Nat} (k : κ) : (unseen (MapFns.drop eqk l k) seen).length ≤ (unseen l seen).length := by
  unfold unseen MapFns.drop
  exact (List.filter_sublist.filter _).length_le
end
end Go.MapFns
