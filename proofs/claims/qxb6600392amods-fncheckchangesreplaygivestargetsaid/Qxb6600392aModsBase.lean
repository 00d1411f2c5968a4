/- Blocks: small laws at the level of whole blocks. Own work for this seat. -/
import Derived.Test.Qxb6600392aModsMaps
import Derived.Deep.MidRow
namespace Go.MapFns
open Go.RowKit

theorem Chg.cell {S : Nat → Prop} {w w' : World} (h : Chg S w w') {b o : Nat} {v : Value} (hc : w.cell? ⟨b, o, none⟩ = some v) (hs : ¬ S b) : w'.cell? ⟨b, o, none⟩ = some v := by
  have hb : b < w.heap.size := World.block_lt_of_cell? w _ hc
  rw [← hc]
  exact World.cell?_of_block (h.block b hb hs)
theorem Chg.blk {S : Nat → Prop} {w w' : World} (h : Chg S w w') {b : Nat} {o : Obj} (hc : w.heap[b]? = some o) (hs : ¬ S b) : w'.heap[b]? = some o := by
  rw [← hc]
  exact h.block b (Array.getElem?_eq_some_iff.1 hc).1 hs
theorem blk_lt {w : World} {b : Nat} {o : Obj} (hc : w.heap[b]? = some o) : b < w.heap.size := (Array.getElem?_eq_some_iff.1 hc).1
theorem Chg.setCells {S : Nat → Prop} (b : Nat) (h : S b) : ∀ (vs : List Value) (o : Nat) (w : World), Chg S w (w.setCells b o vs)
  | [], _, w => Chg.refl S w
  | v :: r, o, w => (Chg.setCell w ⟨b, o, none⟩ v h).trans (Chg.setCells b h r (o + 1) _)
theorem Chg.new {S : Nat → Prop} {a b : World} (h : Chg (fun _ => False) a b) : Chg S a b := h.mono fun _ _ h => h.elim
/-- what is changed lies among the new blocks of an elder world -/
theorem Chg.into {S : Nat → Prop} {a b c : World} (h : Chg (fun _ => False) a b) (k : Chg S b c) (hs : ∀ i, S i → a.heap.size ≤ i) : Chg (fun _ => False) a c :=
  ⟨k.os.trans h.os, k.tape.trans h.tape, k.output.trans h.output, Nat.le_trans h.size k.size, fun i hi hn => (k.block i (Nat.lt_of_lt_of_le hi h.size) (fun hk => by have := hs i hk; omega)).trans (h.block i hi hn)⟩
theorem Chg.toBelow {a b : World} (h : Chg (fun _ => False) a b) : Below a.heap.size a b := h.below (Nat.le_refl _) (fun _ h => h.elim)
theorem size_setCells (b : Nat) : ∀ (vs : List Value) (o : Nat) (w : World), (w.setCells b o vs).heap.size = w.heap.size
  | [], _, _ => rfl
  | v :: r, o, w => by rw [World.setCells, size_setCells b r (o + 1)]; simp

/-- an array with a list laid in from o on -/
def lay (arr : Array Value) (o : Nat) : List Value → Array Value
  | [] => arr
  | v :: r => lay (arr.setIfInBounds o v) (o + 1) r
theorem size_lay (vs : List Value) : ∀ (arr : Array Value) (o : Nat), (lay arr o vs).size = arr.size := by
  induction vs with
  | nil => intro arr o; rfl
  | cons v r ih => intro arr o; rw [lay, ih]; simp
theorem lay_out (vs : List Value) : ∀ (arr : Array Value) (o j : Nat), j < o ∨ o + vs.length ≤ j → (lay arr o vs)[j]? = arr[j]? := by
  induction vs with
  | nil => intro arr o j _; rfl
  | cons v r ih =>
    intro arr o j h
    simp only [List.length_cons] at h
    rw [lay, ih _ _ _ (by omega), Array.getElem?_setIfInBounds, if_neg (by omega)]
theorem lay_in (vs : List Value) : ∀ (arr : Array Value) (o j : Nat), o + vs.length ≤ arr.size → j < vs.length → (lay arr o vs)[o + j]? = vs[j]? := by
  induction vs with
  | nil => intro arr o j _ h; simp at h
  | cons v r ih =>
    intro arr o j h hj
    simp only [List.length_cons] at h hj
    cases j with
    | zero => rw [lay, Nat.add_zero, lay_out _ _ _ _ (by omega)]; have hlt : o < arr.size := by omega
              simp [hlt]
    | succ j =>
      have := ih (arr.setIfInBounds o v) (o + 1) j (by simp; omega) (by omega)
      rw [lay, show o + (j + 1) = o + 1 + j by omega, this]
      simp
theorem heap_setCells (b : Nat) (t : TypeId) : ∀ (vs : List Value) (o : Nat) (w : World) (arr : Array Value), w.heap[b]? = some (.cells arr t (0, 0)) → (w.setCells b o vs).heap[b]? = some (.cells (lay arr o vs) t (0, 0))
  | [], _, _, _, h => h
  | v :: r, o, w, arr, h => by
    rw [World.setCells, lay]
    exact heap_setCells b t r (o + 1) _ _ (heap_setCell_same w b o arr t v h)

theorem there_of_blk {w : World} {b o n : Nat} {arr : Array Value} {t : TypeId} (hb : w.heap[b]? = some (.cells arr t (0, 0))) (h : o + n ≤ arr.size) : w.there b o n := fun j hj =>
  ⟨by rw [cell_of_row w b (o + j) arr t _ hb, Array.getElem?_eq_getElem (by omega)]; rfl, frozen_of_row w b (o + j) arr t hb⟩

theorem wpList_store_blk {P : Program} {ops : Array Oper} {rest : List Oper} {op : Oper} {a : Act} {w : World} {Q : Exit → Act → World → Prop} (hgd : op.guard = none) (ty : TypeId) (x y : Operand) (ho : op.op = .store ty x y)
    (b o : Nat) (vs : List Value) (hx : a.eval x = .pointer (some ⟨b, o, none⟩)) (hy : a.eval y = .agg vs.toArray)
    (arr : Array Value) (t : TypeId) (hb : w.heap[b]? = some (.cells arr t (0, 0))) (hfit : o + vs.length ≤ arr.size) (hi : (P.info? ty).map (·.size) = some vs.length) (h1 : vs.all (·.oneCell') = true)
    (h : wpList P ops Q rest (a.put op.dst undef) (w.setCells b o vs)) : wpList P ops Q (op :: rest) a w := by
  refine wpList_store_mid hgd ty x y ho b o vs.toArray hx hy (there_of_blk hb (by simpa using hfit)) (by simpa using hi) (by simpa using h1) ?_
  simpa using h

/-- the same, the new world a letter -/
theorem wpList_store_to {P : Program} {ops : Array Oper} {rest : List Oper} {op : Oper} {a : Act} {w : World} {Q : Exit → Act → World → Prop} (hgd : op.guard = none) (ty : TypeId) (x y : Operand) (ho : op.op = .store ty x y)
    (b o : Nat) (vs : List Value) (hx : a.eval x = .pointer (some ⟨b, o, none⟩)) (hy : a.eval y = .agg vs.toArray)
    (arr : Array Value) (t : TypeId) (hb : w.heap[b]? = some (.cells arr t (0, 0))) (hfit : o + vs.length ≤ arr.size) (hi : (P.info? ty).map (·.size) = some vs.length) (h1 : vs.all (·.oneCell') = true)
    (h : ∀ w', Chg (· = b) w w' → w'.heap.size = w.heap.size → w'.heap[b]? = some (.cells (lay arr o vs) t (0, 0)) → wpList P ops Q rest (a.put op.dst undef) w') : wpList P ops Q (op :: rest) a w :=
  wpList_store_blk hgd ty x y ho b o vs hx hy arr t hb hfit hi h1 (h _ (Chg.setCells (S := (· = b)) b rfl _ _ _) (size_setCells _ _ _ _) (heap_setCells _ _ _ _ _ _ hb))

theorem lay_all {arr : Array Value} {vs : List Value} (h : arr.size = vs.length) : lay arr 0 vs = vs.toArray := by
  apply Array.ext_getElem?
  intro j
  by_cases hj : j < vs.length
  · have := lay_in vs arr 0 j (by omega) hj
    rw [Nat.zero_add] at this
    rw [this]; simp
  · rw [lay_out _ _ _ _ (by omega), Array.getElem?_eq_none (by omega)]
    simp; omega

/-- a struct laid into a block that was made just now -/
theorem wpList_store_fresh {P : Program} {ops : Array Oper} {rest : List Oper} {op : Oper} {a : Act} {w : World} {Q : Exit → Act → World → Prop} (hgd : op.guard = none) (ty : TypeId) (x y : Operand) (ho : op.op = .store ty x y)
    (vs : List Value) (hx : a.eval x = .pointer (some ⟨w.heap.size, 0, none⟩)) (hy : a.eval y = .agg vs.toArray)
    (arr : Array Value) (t : TypeId) (hfit : arr.size = vs.length) (hi : (P.info? ty).map (·.size) = some vs.length) (h1 : vs.all (·.oneCell') = true)
    (h : ∀ w', Chg (fun _ => False) w w' → w'.heap.size = w.heap.size + 1 → w'.heap[w.heap.size]? = some (.cells vs.toArray t (0, 0)) → wpList P ops Q rest (a.put op.dst undef) w') : wpList P ops Q (op :: rest) a (w.alloc (.cells arr t)) :=
  wpList_store_to hgd ty x y ho _ _ vs hx hy arr t (heap_alloc_new _ _) (by omega) hi h1
    fun w' hc hs hb => h w' ((Chg.alloc _ _ _).into hc (fun i h => by omega)) (by rw [hs]; simp) (by rw [hb, lay_all hfit])
end Go.MapFns
