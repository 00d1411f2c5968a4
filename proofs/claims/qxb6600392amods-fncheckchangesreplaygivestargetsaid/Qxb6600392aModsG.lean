/- The plain law: the run that stays is what greedy matching finds. Own work. -/
import Derived.Test.Qxb6600392aModsF
namespace Go.Proofs.Qxb6600392aMods
open Go.RowKit Go.MapFns
set_option linter.unusedVariables false

theorem runLen_spec (old : Nat → Int) : ∀ k, (∀ i, i < runLen old k → runOk old i = true) ∧ (runLen old k < k → runOk old (runLen old k) = false)
  | 0 => ⟨fun i hi => by simp [runLen] at hi, fun h => by simp [runLen] at h⟩
  | k + 1 => by
    obtain ⟨h1, h2⟩ := runLen_spec old k
    have hle := runLen_le old k
    rw [runLen]
    split
    · rename_i hc
      refine ⟨fun i hi => ?_, fun h => by omega⟩
      rcases Nat.lt_or_ge i k with hik | hik
      · exact h1 i (by omega)
      · obtain rfl : i = k := by omega
        exact hc.2
    · rename_i hc
      refine ⟨h1, fun _ => ?_⟩
      rcases Nat.lt_or_ge (runLen old k) k with hlt | hge
      · exact h2 hlt
      · have e : runLen old k = k := by omega
        rw [e]
        cases hr : runOk old k
        · rfl
        · exact absurd ⟨e, hr⟩ hc
theorem run_pos {old : Nat → Int} {k i : Nat} (h : i < runLen old k) : 0 ≤ old i := by
  have := (runLen_spec old k).1 i h
  simp [runOk] at this
  exact this.1
theorem run_mono {old : Nat → Int} {k : Nat} : ∀ j i, i < j → j < runLen old k → old i < old j
  | 0, i, hij, _ => by omega
  | j + 1, i, hij, hj => by
    have h1 := (runLen_spec old k).1 (j + 1) hj
    simp [runOk] at h1
    have h2 := h1.2
    rcases Nat.lt_or_ge i j with h | h
    · have := run_mono (old := old) (k := k) j i h (by omega)
      omega
    · obtain rfl : i = j := by omega
      exact h2

def Distinct (f : Nat → Chk) (n : Nat) : Prop := ∀ i j, i < j → j < n → f i ≠ f j
theorem idx_of {f : Nat → Chk} {n i : Nat} {c : Chk} (hd : Distinct f n) (hi : i < n) (h : f i = c) : idx f n c = some i := by
  cases e : idx f n c with
  | none => exact absurd h (idx_none e i hi)
  | some k =>
    obtain ⟨hk, hc⟩ := idx_some e
    rcases Nat.lt_trichotomy i k with h1 | h1 | h1
    · exact absurd (h.trans hc.symm) (hd i k h1 hk)
    · rw [h1]
    · exact absurd (hc.trans h.symm) (hd k i h1 hi)
theorem old_of {f g : Nat → Chk} {n i t : Nat} (hd : Distinct f n) (hi : i < n) (h : f i = g t) : oldOf f g n t = (i : Int) := by
  unfold oldOf
  rw [idx_of hd hi h]
theorem old_inv {f g : Nat → Chk} {n t : Nat} (h : 0 ≤ oldOf f g n t) : ∃ k, k < n ∧ oldOf f g n t = (k : Int) ∧ f k = g t := by
  unfold oldOf at h ⊢
  cases e : idx f n (g t) with
  | none => rw [e] at h; simp at h
  | some k =>
    obtain ⟨hk, hc⟩ := idx_some e
    exact ⟨k, hk, rfl, hc⟩

/-- greedy matching: how much of g is found in the first i of f -/
def gp (f g : Nat → Chk) (m : Nat) : Nat → Nat
  | 0 => 0
  | i + 1 => if gp f g m i < m ∧ f i = g (gp f g m i) then gp f g m i + 1 else gp f g m i

structure Gr (f g : Nat → Chk) (n m i : Nat) : Prop where
  le : gp f g m i ≤ runLen (oldOf f g n) m
  lo : ∀ t, t < gp f g m i → oldOf f g n t < (i : Int)
  hi : ∀ t, gp f g m i ≤ t → t < runLen (oldOf f g n) m → (i : Int) ≤ oldOf f g n t

theorem Gr.hit {f g : Nat → Chk} {n m i : Nat} (hd : Distinct f n) (h : Gr f g n m i) (hi : i < n) (hm : gp f g m i < m) (he : f i = g (gp f g m i)) : gp f g m i < runLen (oldOf f g n) m := by
  rcases Nat.lt_or_ge (gp f g m i) (runLen (oldOf f g n) m) with h1 | h1
  · exact h1
  · have e : runLen (oldOf f g n) m = gp f g m i := by have := h.le; omega
    have h2 := (runLen_spec (oldOf f g n) m).2 (by omega)
    have h3 := old_of hd hi he
    rw [e] at h2
    simp [runOk, h3] at h2
    have h4 := h.lo (gp f g m i - 1) (by omega)
    omega
theorem Gr.miss {f g : Nat → Chk} {n m i t : Nat} (hd : Distinct f n) (h : Gr f g n m i) (hi : i < n) (ht : t < runLen (oldOf f g n) m) (he : f i = g t) : t = gp f g m i := by
  have h3 := old_of hd hi he
  rcases Nat.lt_trichotomy t (gp f g m i) with h1 | h1 | h1
  · have := h.lo t h1; omega
  · exact h1
  · have h4 := h.hi (gp f g m i) (Nat.le_refl _) (by omega)
    have h5 := run_mono (old := oldOf f g n) (k := m) t (gp f g m i) h1 ht
    omega
theorem gr_all {f g : Nat → Chk} {n m : Nat} (hd : Distinct f n) : ∀ i, i ≤ n → Gr f g n m i
  | 0, _ => ⟨Nat.zero_le _, fun t ht => by simp [gp] at ht, fun t _ ht => by have := run_pos ht; simpa using this⟩
  | i + 1, hi => by
    have h := gr_all (g := g) (m := m) hd i (by omega)
    by_cases hc : gp f g m i < m ∧ f i = g (gp f g m i)
    · have e : gp f g m (i + 1) = gp f g m i + 1 := by rw [gp, if_pos hc]
      have hlt := h.hit hd (by omega) hc.1 hc.2
      have ho := old_of (g := g) hd (show i < n by omega) hc.2
      refine ⟨by rw [e]; omega, fun t ht => ?_, fun t ht1 ht2 => ?_⟩
      · rw [e] at ht
        rcases Nat.lt_or_ge t (gp f g m i) with h1 | h1
        · have := h.lo t h1; omega
        · obtain rfl : t = gp f g m i := by omega
          omega
      · rw [e] at ht1
        have := run_mono (old := oldOf f g n) (k := m) t (gp f g m i) (by omega) ht2
        omega
    · have e : gp f g m (i + 1) = gp f g m i := by rw [gp, if_neg hc]
      refine ⟨by rw [e]; exact h.le, fun t ht => ?_, fun t ht1 ht2 => ?_⟩
      · rw [e] at ht
        have := h.lo t ht; omega
      · rw [e] at ht1
        have h1 := h.hi t ht1 ht2
        rcases Int.lt_or_eq_of_le h1 with h2 | h2
        · omega
        · obtain ⟨k, hk, ho, hf⟩ := old_inv (f := f) (g := g) (n := n) (run_pos ht2)
          have hki : k = i := by omega
          subst hki
          have h3 := h.miss hd (by omega) ht2 hf
          exact absurd ⟨by have := runLen_le (oldOf f g n) m; omega, h3 ▸ hf⟩ hc
theorem gp_eq {f g : Nat → Chk} {n m : Nat} (hd : Distinct f n) : gp f g m n = runLen (oldOf f g n) m := by
  have h := gr_all (g := g) (m := m) hd n (Nat.le_refl _)
  rcases Nat.lt_or_ge (gp f g m n) (runLen (oldOf f g n) m) with h1 | h1
  · have h2 := h.hi _ (Nat.le_refl _) h1
    obtain ⟨k, hk, ho, _⟩ := old_inv (f := f) (g := g) (n := n) (run_pos h1)
    omega
  · have := h.le; omega

/-- what is kept of f, in f's order, is the run of g -/
def keepL (f g : Nat → Chk) (r k : Nat) : List Chk := ((List.range k).filter fun i => hasB g (f i) r).map f
theorem keep_gp {f g : Nat → Chk} {n m : Nat} (hd : Distinct f n) : ∀ i, i ≤ n → keepL f g (runLen (oldOf f g n) m) i = (List.range (gp f g m i)).map g
  | 0, _ => rfl
  | i + 1, hi => by
    have ih := keep_gp (g := g) (m := m) hd i (by omega)
    have h := gr_all (g := g) (m := m) hd i (by omega)
    unfold keepL at ih ⊢
    rw [List.range_succ, List.filter_append, List.map_append, ih]
    by_cases hc : gp f g m i < m ∧ f i = g (gp f g m i)
    · have e : gp f g m (i + 1) = gp f g m i + 1 := by rw [gp, if_pos hc]
      have hlt := h.hit hd (by omega) hc.1 hc.2
      have hb : hasB g (f i) (runLen (oldOf f g n) m) = true := (hasB_iff _ _ _).2 ⟨_, hlt, hc.2.symm⟩
      have hs : List.filter (fun x => hasB g (f x) (runLen (oldOf f g n) m)) [i] = [i] := by rw [List.filter_cons_of_pos (by exact hb)]; rfl
      rw [e, List.range_succ, List.map_append, hs, List.map_cons, List.map_nil, List.map_cons, List.map_nil, hc.2]
    · have e : gp f g m (i + 1) = gp f g m i := by rw [gp, if_neg hc]
      have hb : hasB g (f i) (runLen (oldOf f g n) m) = false := by
        cases hx : hasB g (f i) (runLen (oldOf f g n) m)
        · rfl
        · obtain ⟨t, ht, hg⟩ := (hasB_iff _ _ _).1 hx
          have h3 := h.miss hd (by omega) ht hg.symm
          exact absurd ⟨by have := runLen_le (oldOf f g n) m; omega, by rw [← h3]; exact hg.symm⟩ hc
      have hs : List.filter (fun x => hasB g (f x) (runLen (oldOf f g n) m)) [i] = [] := by rw [List.filter_cons_of_neg (by rw [hb]; simp)]; rfl
      rw [e, hs, List.map_nil, List.append_nil]
theorem keep_all {f g : Nat → Chk} {n m : Nat} (hd : Distinct f n) : keepL f g (runLen (oldOf f g n) m) n = (List.range (runLen (oldOf f g n) m)).map g := by
  rw [keep_gp hd n (Nat.le_refl _), gp_eq hd]
end Go.Proofs.Qxb6600392aMods
