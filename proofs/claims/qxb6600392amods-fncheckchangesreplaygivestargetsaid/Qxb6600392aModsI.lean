/- More on what is dropped and what is kept. Own work. -/
import Derived.Test.Qxb6600392aModsH
namespace Go.Proofs.Qxb6600392aMods
open Go.RowKit Go.MapFns
set_option linter.unusedVariables false

theorem gp_le (f g : Nat → Chk) (m : Nat) : ∀ i, gp f g m i ≤ m
  | 0 => Nat.zero_le _
  | i + 1 => by
    have := gp_le f g m i
    rw [gp]
    split <;> omega

theorem dropL_pre (f g : Nat → Chk) (r i : Nat) : ∀ n, i ≤ n → ∃ T, dropL f g r n = dropL f g r i ++ T
  | 0, h => by
    obtain rfl : i = 0 := by omega
    exact ⟨[], by simp⟩
  | n + 1, h => by
    by_cases e : i = n + 1
    · subst e
      exact ⟨[], by simp⟩
    · obtain ⟨T, hT⟩ := dropL_pre f g r i n (by omega)
      cases hb : hasB g (f n) r
      · exact ⟨T ++ [f n], by rw [dropL_in f g r n hb, hT, List.append_assoc]⟩
      · exact ⟨T, by rw [dropL_out f g r n hb, hT]⟩
theorem drop_at {f g : Nat → Chk} {r n i : Nat} (hi : i < n) (hb : hasB g (f i) r = false) : (dropL f g r n)[(dropL f g r i).length]? = some (f i) := by
  obtain ⟨T, hT⟩ := dropL_pre f g r (i + 1) n (by omega)
  rw [hT, dropL_in f g r i hb, List.append_assoc, List.getElem?_append_right (Nat.le_refl _)]
  simp
theorem len_drop_lt {f g : Nat → Chk} {r n i : Nat} (hi : i < n) (hb : hasB g (f i) r = false) : (dropL f g r i).length < (dropL f g r n).length := by
  have h := drop_at hi hb
  rcases Nat.lt_or_ge (dropL f g r i).length (dropL f g r n).length with h1 | h1
  · exact h1
  · rw [List.getElem?_eq_none h1] at h; cases h
theorem mem_dropL (f g : Nat → Chk) (r n : Nat) (c : Chk) : c ∈ dropL f g r n ↔ ∃ i, i < n ∧ hasB g (f i) r = false ∧ f i = c := by
  simp [dropL, and_assoc]
theorem hasB_mem {d : Nat → Chk} {L : List Chk} (hd : ∀ j, j < L.length → L[j]? = some (d j)) (c : Chk) : hasB d c L.length = true ↔ c ∈ L := by
  rw [hasB_iff, List.mem_iff_getElem?]
  constructor
  · rintro ⟨j, hj, rfl⟩
    exact ⟨j, hd j hj⟩
  · rintro ⟨j, hj⟩
    have hlt : j < L.length := by
      rcases Nat.lt_or_ge j L.length with h1 | h1
      · exact h1
      · rw [List.getElem?_eq_none h1] at hj; cases hj
    refine ⟨j, hlt, ?_⟩
    have := hd j hlt
    rw [hj] at this
    exact (Option.some.inj this).symm
/-- a check of from is among the drops exactly where it does not stay -/
theorem has_drop {f g d : Nat → Chk} {r n i : Nat} (hi : i < n) (hd : ∀ j, j < (dropL f g r n).length → (dropL f g r n)[j]? = some (d j)) : hasB d (f i) (dropL f g r n).length = !hasB g (f i) r := by
  cases hb : hasB g (f i) r
  · exact (hasB_mem hd (f i)).2 ((mem_dropL f g r n _).2 ⟨i, hi, hb, rfl⟩)
  · cases hx : hasB d (f i) (dropL f g r n).length
    · rfl
    · obtain ⟨j, _, h1, h2⟩ := (mem_dropL f g r n _).1 ((hasB_mem hd (f i)).1 hx)
      rw [h2, hb] at h1
      cases h1
theorem keepL_out (f g : Nat → Chk) (r k : Nat) (h : hasB g (f k) r = false) : keepL f g r (k + 1) = keepL f g r k := by
  unfold keepL
  rw [List.range_succ, List.filter_append]
  simp [h]
theorem keepL_in (f g : Nat → Chk) (r k : Nat) (h : hasB g (f k) r = true) : keepL f g r (k + 1) = keepL f g r k ++ [f k] := by
  unfold keepL
  rw [List.range_succ, List.filter_append]
  simp [h]
theorem len_keepL (f g : Nat → Chk) (r k : Nat) : (keepL f g r k).length ≤ k := by
  unfold keepL
  rw [List.length_map]
  have := List.length_filter_le (fun i => hasB g (f i) r) (List.range k)
  simpa using this
/-- what stayed, then the first k added -/
def backL (g : Nat → Chk) (r k : Nat) : List Chk := (List.range (r + k)).map g
theorem backL_in (g : Nat → Chk) (r k : Nat) : backL g r (k + 1) = backL g r k ++ [g (r + k)] := by
  unfold backL
  rw [← Nat.add_assoc, List.range_succ, List.map_append]
  rfl
theorem len_backL (g : Nat → Chk) (r k : Nat) : (backL g r k).length = r + k := by simp [backL]
theorem slice25 (o : Option Addr) (n r : Nat) (hr : r ≤ n) (hs : n = 0 ∨ ∃ b off, o = some ⟨b, off, none⟩) (w : World) :
    (Instr.slice 25 (.slice o n n) none (some (.int .i64 (r : Int))) none).run Trym.prog w = .ok (.slice o r n) w := by
  have h1 : (0 : Int) ≤ (r : Int) ∧ (r : Int) ≤ (n : Int) := by omega
  rcases hs with rfl | ⟨b, off, rfl⟩
  · obtain rfl : r = 0 := by omega
    simp [go_sem, Trym.underlying25]
  · by_cases hn : n = 0
    · subst hn
      obtain rfl : r = 0 := by omega
      simp [go_sem, Trym.underlying25]
    · simp [go_sem, Trym.underlying25, h1, hn, Addr.add]
end Go.Proofs.Qxb6600392aMods
