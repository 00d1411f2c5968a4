/- The plain law of 'first' against the history. No Go in sight but the values' own functions. -/
import Derived.Test.Qxb6603459aModsWalkB
import Derived.Test.Qxb6603459aModsKeys
namespace Go.Proofs.Qxb6603459aMods

def keyOf (cs : Cs) (k : Nat) : OKey := ((cs k).1, (cs k).2.1)
def runC (cs : Cs) : Nat → Gst
  | 0 => fun _ => none
  | j + 1 => gstep (runC cs j) (keyOf cs j) (cs j).2.2.1 (cs j).2.2.2
def accC (cs : Cs) (j : Nat) : Bool := ans (cur (runC cs j) (keyOf cs j)).1 (cur (runC cs j) (keyOf cs j)).2 (cs j).2.2.1 (cs j).2.2.2

def mx (cs : Cs) (x : OKey) : Nat → Int
  | 0 => 0
  | j + 1 => if keyOf cs j = x ∧ mx cs x j < (cs j).2.2.2 then (cs j).2.2.2 else mx cs x j

theorem sameOp_iff (cs : Cs) (k j : Nat) : sameOp cs k j = true ↔ keyOf cs k = keyOf cs j := by
  simp [sameOp, keyOf]

theorem cur_step_same (g : Gst) (k : OKey) (s f : Int) : cur (gstep g k s f) k = nst (cur g k).1 (cur g k).2 s f := by
  unfold gstep
  rw [cur, if_pos ((eqK_iff k k).2 rfl)]
  rfl
theorem cur_step_other (g : Gst) {k x : OKey} (s f : Int) (h : x ≠ k) : cur (gstep g k s f) x = cur g x := by
  have : ¬ eqK x k = true := fun e => h ((eqK_iff _ _).1 e)
  unfold gstep
  rw [cur, if_neg this]
  rfl

theorem inv (cs : Cs) (x : OKey) (j : Nat) :
    (cur (runC cs j) x).1 = mx cs x j ∧ ∀ t, (cur (runC cs j) x).2 t = true ↔ (mx cs x j ≤ t ∧ ∃ k, k < j ∧ keyOf cs k = x ∧ accC cs k = true ∧ (cs k).2.2.1 = t) := by
  induction j with
  | zero => exact ⟨rfl, fun t => ⟨fun h => by simp [cur, runC] at h, fun ⟨_, k, hk, _⟩ => by omega⟩⟩
  | succ j ih =>
    obtain ⟨ih1, ih2⟩ := ih
    by_cases e : keyOf cs j = x
    · subst e
      simp only [runC, cur_step_same, nst]
      refine ⟨by rw [ih1]; simp [flr, mx], ?_⟩
      intro t
      have hacc : ans (cur (runC cs j) (keyOf cs j)).1 (cur (runC cs j) (keyOf cs j)).2 (cs j).2.2.1 (cs j).2.2.2 = accC cs j := rfl
      rw [hacc]
      have hm : mx cs (keyOf cs j) (j + 1) = flr (mx cs (keyOf cs j) j) (cs j).2.2.2 := by simp [mx, flr]
      rw [hm]
      simp only [Bool.or_eq_true, Bool.and_eq_true, beq_iff_eq, swp, decide_eq_true_eq, ih1]
      constructor
      · rintro (⟨ha, ht⟩ | ⟨hap, hor⟩)
        · refine ⟨?_, j, by omega, rfl, ha, ht.symm⟩
          simp only [accC, ans, Bool.and_eq_true, decide_eq_true_eq] at ha
          rw [ht, ← ih1]; exact ha.1
        · obtain ⟨hle, k, hk, h1, h2, h3⟩ := (ih2 t).1 hap
          refine ⟨?_, k, by omega, h1, h2, h3⟩
          unfold flr
          split <;> omega
      · rintro ⟨hle, k, hk, h1, h2, h3⟩
        by_cases hkj : k = j
        · subst hkj
          exact .inl ⟨h2, h3.symm⟩
        · right
          have hle2 : mx cs (keyOf cs j) j ≤ t := by
            unfold flr at hle
            split at hle <;> omega
          refine ⟨(ih2 t).2 ⟨hle2, k, by omega, h1, h2, h3⟩, ?_⟩
          unfold flr at hle
          split at hle <;> omega
    · have hx : x ≠ keyOf cs j := fun h => e h.symm
      simp only [runC, cur_step_other _ _ _ hx]
      refine ⟨by rw [ih1]; simp [mx, e], ?_⟩
      intro t
      rw [ih2 t]
      have hm : mx cs x (j + 1) = mx cs x j := by simp [mx, e]
      rw [hm]
      constructor
      · rintro ⟨hle, k, hk, h1, h2, h3⟩
        exact ⟨hle, k, by omega, h1, h2, h3⟩
      · rintro ⟨hle, k, hk, h1, h2, h3⟩
        refine ⟨hle, k, ?_, h1, h2, h3⟩
        by_cases hkj : k = j
        · subst hkj; exact absurd h1 e
        · omega

theorem hmax_eq (cs : Cs) (j : Nat) (h0 : 0 ≤ (cs j).2.2.2) (k : Nat) : hmax cs j k = flr (mx cs (keyOf cs j) k) (cs j).2.2.2 := by
  induction k with
  | zero => simp [hmax, mx, flr]; omega
  | succ k ih =>
    simp only [hmax, mx, sameOp_iff, ih]
    by_cases e : keyOf cs k = keyOf cs j
    · simp only [e, true_and]
      unfold flr
      repeat' split
      all_goals omega
    · simp [e]

theorem hdup_iff (cs : Cs) (acc : Nat → Bool) (j m : Nat) : hdup cs acc j m = true ↔ ∃ k, k < m ∧ keyOf cs k = keyOf cs j ∧ acc k = true ∧ (cs k).2.2.1 = (cs j).2.2.1 := by
  induction m with
  | zero => simp [hdup]
  | succ m ih =>
    simp only [hdup, Bool.or_eq_true, ih, Bool.and_eq_true, sameOp_iff, beq_iff_eq]
    constructor
    · rintro (⟨k, hk, h⟩ | ⟨⟨h1, h2⟩, h3⟩)
      · exact ⟨k, by omega, h⟩
      · exact ⟨m, by omega, h1, h2, h3⟩
    · rintro ⟨k, hk, h1, h2, h3⟩
      by_cases e : k = m
      · subst e; exact .inr ⟨⟨h1, h2⟩, h3⟩
      · exact .inl ⟨k, by omega, h1, h2, h3⟩

/-- THE LAW: the history decides as 'first' does. -/
theorem hist_eq (cs : Cs) (j : Nat) (h0 : 0 ≤ (cs j).2.2.2) : hist cs (accC cs) j = accC cs j := by
  obtain ⟨i1, i2⟩ := inv cs (keyOf cs j) j
  have hh := hmax_eq cs j h0 j
  unfold hist
  rw [hh]
  rw [Bool.eq_iff_iff]
  show _ ↔ ans _ _ _ _ = true
  unfold ans swp
  rw [i1]
  simp only [Bool.and_eq_true, Bool.not_eq_true', decide_eq_true_eq]
  constructor
  · rintro ⟨h1, h2⟩
    refine ⟨h2, ?_⟩
    cases hap : (cur (runC cs j) (keyOf cs j)).2 (cs j).2.2.1
    · rfl
    · obtain ⟨_, k, hk⟩ := (i2 _).1 hap
      have := (hdup_iff cs (accC cs) j j).2 ⟨k, hk⟩
      rw [h1] at this
      cases this
  · rintro ⟨h1, h2⟩
    refine ⟨?_, h1⟩
    cases hd : hdup cs (accC cs) j j
    · rfl
    · obtain ⟨k, hk⟩ := (hdup_iff cs (accC cs) j j).1 hd
      have hle : mx cs (keyOf cs j) j ≤ (cs j).2.2.1 := by
        unfold flr at h1
        split at h1 <;> omega
      have hap := (i2 (cs j).2.2.1).2 ⟨hle, k, hk⟩
      have hf : (cs j).2.2.2 ≤ (cs j).2.2.1 := by
        unfold flr at h1
        split at h1 <;> omega
      simp [hap, hf] at h2
end Go.Proofs.Qxb6603459aMods
