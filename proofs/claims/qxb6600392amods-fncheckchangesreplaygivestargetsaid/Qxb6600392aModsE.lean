/- checkChanges: rows of checks, positions. Own work. -/
import Derived.Test.Qxb6600392aModsD
import Derived.Deep.AppendLies
namespace Go.Proofs.Qxb6600392aMods
open Go.RowKit Go.MapFns
set_option linter.unusedVariables false

/-- the cells of a row of checks -/
def rowOf (D : List Chk) : List Value := D.flatMap fun c => [.string c.1, .string c.2]
theorem len_rowOf (D : List Chk) : (rowOf D).length = D.length * 2 := by
  induction D with
  | nil => rfl
  | cons c D ih => simp only [rowOf, List.flatMap_cons, List.length_append, List.length_cons, List.length_nil] at *; omega
theorem get_rowOf {D : List Chk} {i : Nat} {c : Chk} (h : D[i]? = some c) : (rowOf D)[i * 2]? = some (.string c.1) ∧ (rowOf D)[i * 2 + 1]? = some (.string c.2) := by
  induction D generalizing i with
  | nil => simp at h
  | cons d D ih =>
    cases i with
    | zero => simp at h; subst h; exact ⟨rfl, rfl⟩
    | succ i =>
      have := ih (i := i) (by simpa using h)
      rw [show (i + 1) * 2 = i * 2 + 1 + 1 by omega]
      exact this

/-- the slice v owns a row that holds D -/
def Own (w : World) (B : Nat) (v : Value) (D : List Chk) : Prop := w.ownsRow B 31 2 v D.length (rowOf D)
theorem Own.nil (w : World) (B : Nat) : Own w B (.slice none 0 0) [] := ⟨rfl, .inl ⟨rfl, rfl⟩⟩
theorem Own.chg {w w' : World} {B : Nat} {v : Value} {D : List Chk} {S : Nat → Prop} (h : Own w B v D) (hc : Chg S w w') (hs : ∀ k, v.ownBlock = some k → ¬ S k) : Own w' B v D := by
  obtain ⟨h1, h2⟩ := h
  refine ⟨h1, ?_⟩
  rcases h2 with h2 | ⟨g, cap, cur, rfl, hb, hg, r⟩
  · exact .inl h2
  · exact .inr ⟨g, cap, cur, rfl, hb, hc.blk hg (hs g rfl), r⟩
theorem Own.at {w : World} {B : Nat} {v : Value} {D : List Chk} (h : Own w B v D) : ∃ o cap, v = .slice o D.length cap ∧ ∀ i c, D[i]? = some c → ∃ g, o = some ⟨g, 0, none⟩ ∧ w.cell? ⟨g, i * 2, none⟩ = some (.string c.1) ∧ w.cell? ⟨g, i * 2 + 1, none⟩ = some (.string c.2) := by
  rcases h.2 with ⟨h0, h1⟩ | ⟨g, cap, cur, rfl, hb, hg, hle, _, hsz, htk⟩
  · have : D = [] := List.eq_nil_of_length_eq_zero h1
    subst this
    exact ⟨none, 0, h0, fun i c hc => by simp at hc⟩
  · refine ⟨_, cap, rfl, fun i c hc => ⟨g, rfl, ?_, ?_⟩⟩
    all_goals
      have hlt : i < D.length := by
        rcases Nat.lt_or_ge i D.length with h | h
        · exact h
        · rw [List.getElem?_eq_none h] at hc; cases hc
      obtain ⟨g0, g1⟩ := get_rowOf hc
      rw [← htk] at g0 g1
      rw [cell_of_row w _ _ _ _ _ hg]
      rw [List.getElem?_take_of_lt (by omega)] at g0 g1
      first | simpa using g0 | simpa using g1

/-- the last place ahead of k where f has c -/
def idx (f : Nat → Chk) : Nat → Chk → Option Nat
  | 0, _ => none
  | k + 1, c => if eqC c (f k) then some k else idx f k c
def posF (f : Nat → Chk) (k : Nat) : Chk → Option Value := fun c => (idx f k c).map fun i => .int .i64 (i : Int)
theorem posF_step (f : Nat → Chk) (k : Nat) (c : Chk) : upd eqC (posF f k) (f k) (.int .i64 (k : Int)) c = posF f (k + 1) c := by
  unfold upd posF
  rw [idx]
  cases h : eqC c (f k) <;> simp
theorem idx_some {f : Nat → Chk} {k i : Nat} {c : Chk} (h : idx f k c = some i) : i < k ∧ f i = c := by
  induction k with
  | zero => simp [idx] at h
  | succ k ih =>
    rw [idx] at h
    cases e : eqC c (f k)
    · rw [e] at h
      have := ih (by simpa using h)
      exact ⟨by omega, this.2⟩
    · rw [e] at h
      simp at h
      subst h
      exact ⟨by omega, ((eqC_iff _ _).1 e).symm⟩
theorem idx_none {f : Nat → Chk} {k : Nat} {c : Chk} (h : idx f k c = none) : ∀ i, i < k → f i ≠ c := by
  induction k with
  | zero => intro i hi; omega
  | succ k ih =>
    rw [idx] at h
    cases e : eqC c (f k)
    · rw [e] at h
      intro i hi
      rcases Nat.lt_or_ge i k with hik | hik
      · exact ih (by simpa using h) i hik
      · obtain rfl : i = k := by omega
        intro e2
        rw [eqC_true e2.symm] at e
        cases e
    · rw [e] at h
      simp at h
def oldOf (f g : Nat → Chk) (n : Nat) : Nat → Int := fun i => match idx f n (g i) with | some k => (k : Int) | none => -1

theorem run_makeMap_hint (n : Nat) (w : World) : (Instr.makeMap 80 (some (.int .i64 n))).run Trym.prog w = .ok (.map (some w.heap.size)) (w.alloc (.map #[] 0)) := by
  simp [Instr.makeMap, run_underlying Trym.underlying80, asInt, asIntOf]
theorem Trym.info3 : (Trym.prog.info? 3).map (fun i => (i.zero, i.size, i.bytes)) = some (some (.int .i64 0), 1, 8) := by kernel_rfl
theorem mk81 (w : World) (n : Nat) (hc : n ≤ 4096) : (Instr.makeSlice 81 (.int .i64 n) (.int .i64 n)).run Trym.prog w =
   .ok (.slice (some ⟨w.heap.size, 0, none⟩) n n) (w.alloc (.cells (arrN n fun i => .int .i64 0) 3)) := by
  obtain ⟨i, hi, hz, hs, hb⟩ := info_parts Trym.info3
  rw [run_make w 81 3 i _ Trym.underlying81 hi hz .i64 .i64 n n (by omega) (by omega) (by rw [hb]; omega) (by omega)]
  congr 3
  refine arrN_of (by rw [hs, size_madeCells]; simp) fun j hj => ?_
  simp [madeCells, hs, hj, Value.cells, Nat.mod_one]
end Go.Proofs.Qxb6600392aMods
