/- place by one contract; what the law on accounts needs of it. Own work. -/
import Derived.Test.Qxb6603459aModsPlaceB
import Derived.Test.Qxb6603459aModsRecG
import Derived.Test.Qxb6603459aModsRecH
namespace Go.Proofs.Qxb6603459aMods
open Go.RowKit Go.MapFns

def atNew (F : Fl) (L : List Ck) : Int := match L.getLast? with | none => F.next | some c => wrap64 (c.at_ + c.cp)

/-- what place leaves -/
def PlaceRes (F : Fl) (L : List Ck) (dn : Nat) (db : Nat → Int) (sz : Nat) (F' : Fl) (L' : List Ck) : Prop :=
  (∃ L0 c, L = L0 ++ [c] ∧ F.fresh = false ∧ c.n + dn ≤ c.cp ∧ F' = { F with next := wrap64 (F.next + dn) } ∧ L' = L0 ++ [withData c dn db]) ∨
  ((L = [] ∨ F.fresh = true ∨ ∃ L0 c, L = L0 ++ [c] ∧ c.cp < c.n + dn) ∧ ∃ cv blk, F' = { F with cv := cv, chunked := wrap64 (F.chunked + sz), next := wrap64 (atNew F L + dn), fresh := false } ∧ L' = L ++ [withData ⟨atNew F L, fun _ => 0, 0, sz, blk⟩ dn db])

theorem place37_all (w : World) (B R : Nat) (F : Fl) (L : List Ck) (h : RecRep w B R F L) (hB : B ≤ w.heap.size) (hL : L.length ≤ 5000) (hcp : ∀ c ∈ L, c.cp ≤ 1048576) (do_ : Option Addr) (dn dc : Nat) (hd : dn ≤ 1048576)
    (db : Nat → Int) (hdb : ElemsIn w do_ dn (byt db)) (hdz : do_ = none → dn = 0 ∧ dc = 0) (hdB : ∀ b off, do_ = some ⟨b, off, none⟩ → b < B) (sz : Nat) (hsz : (sz : Int) = max (min 65536 F.room) dn) :
    Calls Trym.prog 37 #[.pointer (some ⟨R, 0, none⟩), .slice do_ dn dc] w fun e w' => e = .returned (.tuple #[]) ∧ ∃ F' L', RecRep w' B R F' L' ∧ PlaceRes F L dn db sz F' L' ∧ Below B w w' := by
  rcases List.eq_nil_or_concat L with rfl | ⟨L0, c, rfl⟩
  · exact (place37_empty w B R F h hB do_ dn dc hd db hdb hdz hdB sz hsz).mono fun e w' ⟨h1, cv, blk, h2, h3⟩ => ⟨h1, _, _, h2, .inr ⟨.inl rfl, cv, blk, rfl, rfl⟩, h3⟩
  · rw [List.concat_eq_append] at *
    have hL0 : L0.length ≤ 5000 := by simp at hL; omega
    have hc := hcp c (by simp)
    have hat : atNew F (L0 ++ [c]) = wrap64 (c.at_ + c.cp) := by simp [atNew]
    cases hfr : F.fresh with
    | true =>
      refine (place37_fresh w B R F L0 c hL0 hc hfr h hB do_ dn dc hd db hdb hdz hdB sz hsz).mono fun e w' ⟨h1, cv, blk, h2, h3⟩ => ⟨h1, _, _, h2, .inr ⟨.inr (.inl hfr), cv, blk, ?_, ?_⟩, h3⟩
      · rw [hat]
      · rw [hat]
    | false =>
      by_cases hno : c.n + dn ≤ c.cp
      · obtain ⟨_, _, _, hnc, _⟩ := (h.bufs c (by simp)).2
        exact (place37_in w B R F L0 c h hB hL0 do_ dn dc hfr (by omega) hc db hdb hdz).mono fun e w' ⟨h1, h2, h3⟩ => ⟨h1, _, _, h2, .inl ⟨L0, c, rfl, hfr, hno, rfl, rfl⟩, h3⟩
      · refine (place37_full w B R F L0 c hL0 hc hfr h hB do_ dn dc hd (by omega) db hdb hdz hdB sz hsz).mono fun e w' ⟨h1, cv, blk, h2, h3⟩ => ⟨h1, _, _, h2, .inr ⟨.inr (.inr ⟨L0, c, rfl, by omega⟩), cv, blk, ?_, ?_⟩, h3⟩
        · rw [hat]
        · rw [hat]

set_option maxHeartbeats 400000 in
theorem place21 (w : World) (B R : Nat) (F : Fl) (L : List Ck) (h : RecRep w B R F L) (hB : B ≤ w.heap.size) (hL : L.length ≤ 5000) (hcp : ∀ c ∈ L, c.cp ≤ 1048576) (do_ : Option Addr) (dn dc : Nat) (hd : dn ≤ 1048576)
    (db : Nat → Int) (hdb : ElemsIn w do_ dn (byt db)) (hdz : do_ = none → dn = 0 ∧ dc = 0) (hdB : ∀ b off, do_ = some ⟨b, off, none⟩ → b < B) (sz : Nat) (hsz : (sz : Int) = max (min 65536 F.room) dn) :
    Calls Trym.prog 21 #[.pointer (some ⟨R, 0, none⟩), .slice do_ dn dc] w fun e w' => e = .returned (.tuple #[]) ∧ ∃ F' L', RecRep w' B R F' L' ∧ PlaceRes F L dn db sz F' L' ∧ Below B w w' := by
  have H : Hid (Calls _ _ _ _ _) := place37_all w B R F L h hB hL hcp do_ dn dc hd db hdb hdz hdB sz hsz
  clear h hcp hdb hdz hdB hsz
  go_enter Trym.func21, Trym.ntmps21
  go_wp2_with (go_at_call 37; refine H.out.mono ?_; rintro e w' ⟨rfl, h2⟩)
  go_end0
  exact ⟨rfl, h2⟩

/-- the accounts, of a list of chunks -/
structure AccL (F : Fl) (L : List Ck) : Prop where
  link : ∀ k a b, L[k]? = some a → L[k + 1]? = some b → b.at_ = wrap64 (a.at_ + a.cp)
  sum : wsum (fun i => ((L[i]?).map (fun c => (c.cp : Int))).getD 0) L.length = F.chunked
  last : ∀ c, L.getLast? = some c → F.fresh = false → F.next = wrap64 (c.at_ + c.n)

/-- what the law asks behind place -/
structure AccD (F : Fl) (L : List Ck) (dn : Nat) (db : Nat → Int) : Prop where
  acc : AccL F L
  fresh : F.fresh = false
  data : ∃ L0 c, L = L0 ++ [c] ∧ dn ≤ c.n ∧ ∀ i, i < dn → c.bs (c.n - dn + i) = db i

theorem wsum_congr {f g : Nat → Int} (n : Nat) (h : ∀ i, i < n → f i = g i) : wsum f n = wsum g n := by
  induction n with
  | zero => rfl
  | succ n ih => simp only [wsum, ih (fun i hi => h i (by omega)), h n (by omega)]

theorem wrap64_add (a b : Int) : wrap64 (wrap64 a + b) = wrap64 (a + b) := by
  unfold wrap64
  omega

theorem acc_place {F F' : Fl} {L L' : List Ck} {dn sz : Nat} {db : Nat → Int} (h : AccL F L) (hr : PlaceRes F L dn db sz F' L') : AccD F' L' dn db := by
  rcases hr with ⟨L0, c, rfl, hfr, hfit, rfl, rfl⟩ | ⟨hway, cv, blk, rfl, rfl⟩
  · refine ⟨⟨?_, ?_, ?_⟩, hfr, L0, withData c dn db, rfl, by simp [withData], ?_⟩
    · intro k a b ha hb
      have key : ∀ (i : Nat) (x : Ck), (L0 ++ [withData c dn db])[i]? = some x → ∃ y : Ck, (L0 ++ [c])[i]? = some y ∧ y.at_ = x.at_ ∧ y.cp = x.cp := by
        intro i x hx
        by_cases hi : i < L0.length
        · rw [List.getElem?_append_left hi] at hx
          exact ⟨x, by rw [List.getElem?_append_left hi]; exact hx, rfl, rfl⟩
        · by_cases e : i = L0.length
          · subst e
            simp at hx
            subst hx
            exact ⟨c, by simp, rfl, rfl⟩
          · rw [List.getElem?_eq_none (by simp; omega)] at hx
            cases hx
      obtain ⟨a', ha', e1, e2⟩ := key k a ha
      obtain ⟨b', hb', e3, _⟩ := key (k + 1) b hb
      rw [← e3, ← e1, ← e2]
      exact h.link k a' b' ha' hb'
    · show wsum _ _ = F.chunked
      rw [← h.sum]
      have : (L0 ++ [withData c dn db]).length = (L0 ++ [c]).length := by simp
      rw [this]
      refine wsum_congr _ fun i hi => ?_
      by_cases hi2 : i < L0.length
      · rw [List.getElem?_append_left hi2, List.getElem?_append_left hi2]
      · have e : i = L0.length := by simp at hi; omega
        subst e
        simp [withData]
    · intro c' hc' _
      simp at hc'
      subst hc'
      show wrap64 (F.next + dn) = wrap64 (c.at_ + ((c.n + dn : Nat) : Int))
      rw [h.last c (by simp) hfr, wrap64_add]
      congr 1
      omega
    · intro i hi
      simp only [withData]
      rw [if_neg (by omega)]
      congr 1
      omega
  · refine ⟨⟨?_, ?_, ?_⟩, rfl, L, _, rfl, by simp [withData], ?_⟩
    · intro k a b ha hb
      by_cases hk : k + 1 < L.length
      · rw [List.getElem?_append_left hk] at hb
        rw [List.getElem?_append_left (by omega)] at ha
        exact h.link k a b ha hb
      · have hkl : k + 1 = L.length := by
          rcases Nat.lt_or_ge (k + 1) (L.length + 1) with h | h
          · omega
          · rw [List.getElem?_eq_none (by simp; omega)] at hb; cases hb
        rw [List.getElem?_append_right (by omega), hkl] at hb
        rw [List.getElem?_append_left (by omega)] at ha
        simp at hb
        subst hb
        have hl : L.getLast? = some a := by rw [List.getLast?_eq_getElem?, ← hkl]; simpa using ha
        show atNew F L = _
        simp [atNew, hl]
    · show wsum _ (L ++ [_]).length = wrap64 (F.chunked + sz)
      rw [List.length_append, List.length_cons, List.length_nil, ← h.sum]
      simp only [wsum]
      rw [wsum_congr L.length (g := fun i => ((L[i]?).map (fun c => (c.cp : Int))).getD 0) (fun i hi => by rw [List.getElem?_append_left hi])]
      simp [withData]
    · intro c' hc' _
      simp at hc'
      subst hc'
      simp [withData]
    · intro i hi
      simp [withData]
end Go.Proofs.Qxb6603459aMods
