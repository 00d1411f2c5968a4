/- A row that grows, for the replay. Own work. -/
import Derived.Test.Qxb6600392aModsI
namespace Go.Proofs.Qxb6600392aMods
open Go.RowKit Go.MapFns
set_option linter.unusedVariables false

/-- the row v owns D; nothing else has turned since w -/
structure Q1 (w wr : World) (B : Nat) (v : Value) (D : List Chk) : Prop where
  chg : Chg (fun _ => False) w wr
  own : Own wr B v D
  lo : w.heap.size ≤ B ∧ B ≤ wr.heap.size
theorem Q1.start {w wr : World} (hc : Chg (fun _ => False) w wr) : Q1 w wr wr.heap.size (.slice none 0 0) [] := ⟨hc, Own.nil _ _, hc.size, Nat.le_refl _⟩
theorem Q1.new {w wr w2 : World} {B : Nat} {v : Value} {D : List Chk} (h : Q1 w wr B v D) (hc : Chg (fun _ => False) wr w2) : Q1 w w2 B v D := ⟨h.chg.trans hc, h.own.chg hc (by simp), h.lo.1, Nat.le_trans h.lo.2 hc.size⟩
theorem Q1.add {w wr w3 : World} {B : Nat} {v v' : Value} {D : List Chk} {c : Chk} (h : Q1 w wr B v D) (ho : w3.ownsRow B 31 2 v' (D.length + 1) (rowOf D ++ [.string c.1, .string c.2])) (hg : wr.grownBy w3 v.ownBlock) : Q1 w w3 B v' (D ++ [c]) := by
  have hlo := h.own.lt
  have hc : Chg (fun i => v.ownBlock = some i) wr w3 := ⟨hg.os, hg.tape, hg.output, hg.size, fun k hk hn => hg.block k hk (fun e => hn e.symm)⟩
  refine ⟨h.chg.into hc (fun i hi => by have := (hlo i hi).1; have := h.lo.1; omega), ?_, h.lo.1, Nat.le_trans h.lo.2 hg.size⟩
  unfold Own
  rw [rowOf_snoc, List.length_append]
  exact ho
theorem news_at1 (w : World) (c : Chk) : ∀ x u, ([.string c.1, .string c.2] : List Value)[x]? = some u → (w.alloc (.cells #[.string c.1, .string c.2] 31)).cell? ((⟨w.heap.size, 0, none⟩ : Addr).add x) = some u := by
  intro x u hx
  have hb := heap_alloc_new w (.cells #[.string c.1, .string c.2] 31)
  have e : ((⟨w.heap.size, 0, none⟩ : Addr).add x) = ⟨w.heap.size, x, none⟩ := by simp [Addr.add]; exact fun h => h.symm
  rw [e, cell_of_row _ _ _ _ _ _ hb]
  simpa using hx
/-- the drops, read by a function -/
theorem drops_fn {w : World} {od : Option Addr} {f g : Nat → Chk} {r n : Nat} (h : ∀ i c, (dropL f g r n)[i]? = some c → ∃ q, od = some ⟨q, 0, none⟩ ∧ w.cell? ⟨q, i * 2, none⟩ = some (.string c.1) ∧ w.cell? ⟨q, i * 2 + 1, none⟩ = some (.string c.2)) :
    ∃ d : Nat → Chk, ChksIn w od (dropL f g r n).length d ∧ ∀ i, i < n → hasB d (f i) (dropL f g r n).length = !hasB g (f i) r := by
  have hd : ∀ j, j < (dropL f g r n).length → (dropL f g r n)[j]? = some ((dropL f g r n).getD j (ByteArray.empty, ByteArray.empty)) := by
    intro j hj
    rw [List.getD_eq_getElem?_getD, List.getElem?_eq_getElem hj]
    rfl
  refine ⟨fun j => (dropL f g r n).getD j (ByteArray.empty, ByteArray.empty), ?_, fun i hi => has_drop hi hd⟩
  intro j hj
  obtain ⟨q, e, c0, c1⟩ := h j _ (hd j hj)
  exact ⟨q, 0, e, by rw [Nat.zero_add]; exact c0, by rw [Nat.zero_add]; exact c1⟩
end Go.Proofs.Qxb6600392aMods
