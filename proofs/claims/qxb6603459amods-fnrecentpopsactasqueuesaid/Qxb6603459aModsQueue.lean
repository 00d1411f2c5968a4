/- pops, one behind the other. Own work. -/
import Derived.Test.Qxb6603459aModsPopC
namespace Go.Proofs.Qxb6603459aMods
open Go.RowKit Go.MapFns
set_option linter.unusedVariables false

/-- behind i pops, entries being left -/
structure Q8 (w5 wr : World) (R eb : Nat) (F : Fl) (L : List Ck) (en h i : Nat) (ef : Nat → Int) (k m' h' : Nat) (ef' : Nat → Int) (cv' : Value) (s : Int) : Prop where
  st : PopSt w5 wr R eb { F with first := IntKind.u64.wrap (F.first + i), ev := .slice (some ⟨eb, 0, none⟩) m' en, head := (h' : Int), start := s, cv := cv', chunked := wrap64 (F.chunked - wsum (capOf L) k) } (L.drop k) m' en ef'
  m : m' = h' + (en - (h + i))
  le : m' ≤ en
  el : ∀ j, j < en - (h + i) → ef' (h' + j) = ef (h + i + j)
  kl : k ≤ L.length
  k0 : i = 0 → k = 0
  dr : 0 < i → Drops (ef (h + i - 1)) L k ∧ 2 * h' ≤ m' ∧ s = ef (h + i - 1)

theorem u64_step (a : Int) (i : Nat) : IntKind.u64.wrap (IntKind.u64.wrap (a + i) + 1) = IntKind.u64.wrap (a + ((i + 1 : Nat) : Int)) := by
  rw [IntKind.wrap_u64, IntKind.wrap_u64, IntKind.wrap_u64]
  omega

theorem wsum_add (f : Nat → Int) (k : Nat) : ∀ n, wrap64 (wsum f k + wsum (fun i => f (k + i)) n) = wrap64 (wsum f (k + n))
  | 0 => by simp [wsum]
  | n + 1 => by
    have ih := wsum_add f k n
    show wrap64 (wsum f k + wrap64 (wsum (fun i => f (k + i)) n + f (k + n))) = wrap64 (wrap64 (wsum f (k + n) + f (k + n)))
    unfold wrap64 at *
    omega
theorem capOf_drop (L : List Ck) (k i : Nat) : capOf (L.drop k) i = capOf L (k + i) := by unfold capOf; rw [List.getElem?_drop]
theorem wsum_step (c : Int) (L : List Ck) (k n : Nat) : wrap64 (wrap64 (c - wsum (capOf L) k) - wsum (capOf (L.drop k)) n) = wrap64 (c - wsum (capOf L) (k + n)) := by
  have h := wsum_add (capOf L) k n
  rw [show capOf (L.drop k) = fun i => capOf L (k + i) from funext fun i => capOf_drop L k i]
  unfold wrap64 at *
  omega

theorem drops_add {s s' : Int} {L : List Ck} {k n : Nat} (h1 : ∀ i c, i < k → L[i]? = some c → wrap64 (c.at_ + c.cp) ≤ s) (hs : s ≤ s') (hk : k ≤ L.length) (h2 : Drops s' (L.drop k) n) : Drops s' L (k + n) := by
  refine ⟨by have := h2.le; rw [List.length_drop] at this; omega, ?_, ?_⟩
  · intro i c hi hc
    rcases Nat.lt_or_ge i k with hik | hik
    · exact Int.le_trans (h1 i c hik hc) hs
    · exact h2.go (i - k) c (by omega) (by rw [List.getElem?_drop, show k + (i - k) = i by omega]; exact hc)
  · intro c hc
    exact h2.stop c (by rw [List.getElem?_drop]; exact hc)

/-- behind the last pop -/
def Clr (w5 wr : World) (R eb : Nat) (F : Fl) (i : Nat) (s : Int) : Prop :=
  Chg (fun i => i = R ∨ i = eb) w5 wr ∧ wr.heap[R]? = some (.cells (recArr { F with first := IntKind.u64.wrap (F.first + i), ev := .slice none 0 0, head := 0, start := s, cv := .slice none 0 0, chunked := 0, fresh := false }) 70 (0, 0))

theorem Q8.step {w5 wr w6 : World} {R eb : Nat} {F : Fl} {L : List Ck} {en h i : Nat} {ef : Nat → Int} {k m' h' : Nat} {ef' : Nat → Int} {cv' : Value} {s : Int} (q : Q8 w5 wr R eb F L en h i ef k m' h' ef' cv' s) (hlt : h + i < en) (hmono : ∀ j, h + 1 ≤ j → j < en → ef (j - 1) ≤ ef j)
    (hp : PopRes wr w6 R eb { F with first := IntKind.u64.wrap (F.first + i), ev := .slice (some ⟨eb, 0, none⟩) m' en, head := (h' : Int), start := s, cv := cv', chunked := wrap64 (F.chunked - wsum (capOf L) k) } (L.drop k) m' en h' ef' (IntKind.u64.wrap (IntKind.u64.wrap (F.first + i) + 1))) :
    (h + i + 1 = en ∧ Clr w5 w6 R eb F (i + 1) (ef (h + i))) ∨ (h + i + 1 < en ∧ ∃ k m' h' ef' cv' s, Q8 w5 w6 R eb F L en h (i + 1) ef k m' h' ef' cv' s) := by
  have e0 : ef' h' = ef (h + i) := by have := q.el 0 (by omega); simpa using this
  have hm := q.m
  have hle := q.le
  rw [u64_step] at hp
  rcases hp with ⟨h1, hc, hf⟩ | ⟨h1, k2, cv2, m2, h2, ef2, hd, hst, hcase⟩
  · refine .inl ⟨by omega, q.st.chg.trans hc, ?_⟩
    rw [e0] at hf
    exact hf
  · refine .inr ⟨by omega, k + k2, m2, h2, ef2, cv2, ef (h + i), ⟨⟨?_, hst.ends, ?_, q.st.chg.trans hst.chg⟩, ?_, ?_, ?_, ?_, by omega, ?_⟩⟩
    · have := hst.fields
      simp only [wsum_step, e0] at this
      exact this
    · have := hst.cks
      rw [List.drop_drop] at this
      exact this
    · rcases hcase with ⟨a, b, c, d⟩ | ⟨a, b, c, d⟩ <;> omega
    · rcases hcase with ⟨a, b, c, d⟩ | ⟨a, b, c, d⟩ <;> omega
    · intro j hj
      rcases hcase with ⟨a, b, rfl, d⟩ | ⟨a, b, c, d⟩
      · rw [Nat.zero_add, d j (by omega)]
        have := q.el (1 + j) (by omega)
        rw [show h' + 1 + j = h' + (1 + j) by omega, this]
        congr 1; omega
      · rw [d, c]
        have := q.el (1 + j) (by omega)
        rw [show h' + 1 + j = h' + (1 + j) by omega, this]
        congr 1; omega
    · have := hd.le
      rw [List.length_drop] at this
      have := q.kl
      omega
    · intro _
      rw [show h + (i + 1) - 1 = h + i by omega]
      rw [e0] at hd
      refine ⟨?_, ?_, rfl⟩
      · rcases Nat.eq_zero_or_pos i with hi | hi
        · have hk0 := q.k0 hi
          exact drops_add (s := ef (h + i)) (fun j c hj => by omega) (Int.le_refl _) q.kl hd
        · have := hmono (h + i) (by omega) hlt
          exact drops_add (q.dr hi).1.go this q.kl hd
      · rcases hcase with ⟨a, b, c, d⟩ | ⟨a, b, c, d⟩ <;> omega

theorem Q8.start {w5 : World} {R eb : Nat} {F : Fl} {L : List Ck} {en h : Nat} {ef : Nat → Int} (hst : PopSt w5 w5 R eb F L en en ef) (hev : F.ev = .slice (some ⟨eb, 0, none⟩) en en) (hh : F.head = h) (hlt : h < en) (hch : wrap64 F.chunked = F.chunked) (hfi : IntKind.u64.wrap F.first = F.first) : Q8 w5 w5 R eb F L en h 0 ef 0 en h ef F.cv F.start := by
  refine ⟨?_, by omega, Nat.le_refl _, fun j _ => rfl, Nat.zero_le _, fun _ => rfl, fun h => by omega⟩
  have e : { F with first := IntKind.u64.wrap (F.first + ((0 : Nat) : Int)), ev := .slice (some ⟨eb, 0, none⟩) en en, head := (h : Int), start := F.start, cv := F.cv, chunked := wrap64 (F.chunked - wsum (capOf L) 0) } = F := by
    cases F
    simp only at hev hh hch hfi
    simp [wsum, hev, hh, hch, hfi]
  rw [e]
  exact hst
end Go.Proofs.Qxb6603459aMods
