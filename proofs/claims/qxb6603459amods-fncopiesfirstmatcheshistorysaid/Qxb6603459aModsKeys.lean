/- The two key types of 'copies', and what the record holds. Own work. -/
import Derived.Test.Qxb6603459aModsWalkA
namespace Go.Proofs.Qxb6603459aMods
open Go.RowKit Go.MapFns
abbrev OKey := Int × Int
def eqK (a b : OKey) : Bool := a.1 == b.1 && a.2 == b.2
def encK (k : OKey) : Value := .agg #[.int .u64 k.1, .int .u64 k.2]
abbrev encU (s : Int) : Value := .int .u64 s
abbrev eqU (a b : Int) : Bool := a == b
theorem equal74 (w : World) (a b : OKey) : (Op.equal 74 (encK a) (encK b)).run Trym.prog w = .ok (eqK a b) w := by
  unfold Op.equal Op.maxDepth encK
  rw [run_equalIn_agg w 9999 74 _ _ (by kernel_rfl) (by kernel_rfl)]
  simp [go_sem]
  by_cases h1 : a.1 = b.1 <;> by_cases h2 : a.2 = b.2 <;> simp [eqK, h1, h2]
theorem check31 (w : World) (em : Bool) (n : Nat) (a : Int) : (Instr.checkKey em (n + 1) 31 (.int .u64 a)).run Trym.prog w = .ok () w := by
  rw [Instr.checkKey]
  simp [run_underlying Trym.underlying31]
theorem check74 (w : World) (em : Bool) (a : OKey) : (Instr.checkKey em 10000 74 (encK a)).run Trym.prog w = .ok () w := by
  show (Instr.checkKey em (9998 + 1 + 1) 74 (encK a)).run Trym.prog w = _
  rw [Instr.checkKey]
  simp [encK, run_underlying Trym.underlying74, part, check31]
theorem eqK_iff (a b : OKey) : eqK a b = true ↔ a = b := by
  obtain ⟨a1, a2⟩ := a
  obtain ⟨b1, b2⟩ := b
  simp [eqK]
theorem key74 : KeyTy Trym.prog 74 OKey eqK encK where
  eqk_iff := eqK_iff
  check := check74
  same := fun k => by
    show Instr.sameBits (9998 + 1 + 1) (encK k) (encK k) = true
    simp [encK, Instr.sameBits]
  find := find_of_equal Trym.underlying74 (fun a b => rfl) equal74
theorem key31 : KeyTy Trym.prog 31 Int eqU encU := int_key Trym.underlying31

/-- What an opening's record holds: its floor, and which numbers are applied. -/
abbrev Opn := Int × (Int → Bool)
abbrev Gst := OKey → Option Opn

def setFn (ap : Int → Bool) : Int → Option Value := fun s => if ap s then some (.bool true) else none

/-- one opening's record lies at block o, its set at block m -/
structure OpnAt (w : World) (B M o m : Nat) (fl : Int) (ap : Int → Bool) : Prop where
  bo : B ≤ o
  bm : B ≤ m
  ne : m ≠ M
  cells : w.heap[o]? = some (.cells #[.int .u64 fl, .map (some m)] 78 (0, 0))
  set : MapFn eqU encU w m (setFn ap)

/-- the record of copies at block M, all its memory from block B on -/
structure Cop (w : World) (B M : Nat) (g : Gst) (F : OKey → Option Value) (o m : OKey → Nat) : Prop where
  base : B ≤ M
  map : MapFn eqK encK w M F
  noneF : ∀ k, g k = none → F k = none
  someF : ∀ k fl ap, g k = some (fl, ap) → F k = some (.pointer (some ⟨o k, 0, none⟩)) ∧ OpnAt w B M (o k) (m k) fl ap
  inj : ∀ k k', k ≠ k' → (g k).isSome = true → (g k').isSome = true → o k ≠ o k' ∧ m k ≠ m k'

/-- what a call of 'first' does: the floor, the set behind the sweep, the answer -/
def flr (fl f : Int) : Int := if fl < f then f else fl
def swp (ap : Int → Bool) (fl f : Int) : Int → Bool := fun x => ap x && (decide (f ≤ fl) || decide (f ≤ x))
def ans (fl : Int) (ap : Int → Bool) (s f : Int) : Bool := decide (flr fl f ≤ s) && !swp ap fl f s
def nst (fl : Int) (ap : Int → Bool) (s f : Int) : Opn := (flr fl f, fun x => (ans fl ap s f && x == s) || swp ap fl f x)
def cur (g : Gst) (k : OKey) : Opn := (g k).getD (0, fun _ => false)
def gstep (g : Gst) (k : OKey) (s f : Int) : Gst := fun x => if eqK x k then some (nst (cur g k).1 (cur g k).2 s f) else g x

def gset (g : Gst) (k : OKey) (v : Opn) : Gst := fun x => if eqK x k then some v else g x
theorem gset_same (g : Gst) (k : OKey) (v : Opn) : gset g k v k = some v := by simp [gset, (eqK_iff k k).2 rfl]
theorem gset_other (g : Gst) {k x : OKey} (v : Opn) (h : x ≠ k) : gset g k v x = g x := by
  have : eqK x k = false := by
    cases hh : eqK x k
    · rfl
    · exact absurd ((eqK_iff _ _).1 hh) h
  simp [gset, this]

/-- rows of cells that are no opening's record stand as they were -/
def Keep (w w' : World) : Prop := ∀ (k : Nat) (c : Array Value) (t : TypeId) (fr : Nat × Nat), w.heap[k]? = some (.cells c t fr) → t ≠ 78 → w'.heap[k]? = some (.cells c t fr)
theorem Keep.refl (w : World) : Keep w w := fun _ _ _ _ h _ => h
theorem Keep.trans {a b c : World} (h : Keep a b) (k : Keep b c) : Keep a c := fun i _ _ _ hi ht => k i _ _ _ (h i _ _ _ hi ht) ht
theorem Keep.new {a b : World} (h : Chg (fun _ => False) a b) : Keep a b := fun _ _ _ _ hi _ => h.blk hi (by simp)

section
variable {w w' : World} {B M : Nat} {g : Gst} {F : OKey → Option Value} {o m : OKey → Nat}

theorem OpnAt.congr {o m : Nat} {fl : Int} {ap : Int → Bool} (h : OpnAt w B M o m fl ap) (h1 : w'.heap[o]? = w.heap[o]?) (h2 : w'.heap[m]? = w.heap[m]?) : OpnAt w' B M o m fl ap :=
  ⟨h.bo, h.bm, h.ne, h1.trans h.cells, h.set.congr h2⟩
theorem OpnAt.om {o m : Nat} {fl : Int} {ap : Int → Bool} (h : OpnAt w B M o m fl ap) : o ≠ m := by
  intro e
  obtain ⟨l, c, h1, _⟩ := h.set
  rw [← e, h.cells] at h1
  cases h1
theorem Cop.oM (h : Cop w B M g F o m) {k : OKey} {fl : Int} {ap : Int → Bool} (hk : g k = some (fl, ap)) : o k ≠ M := by
  intro e
  obtain ⟨l, c, h1, _⟩ := h.map
  rw [← e, (h.someF k fl ap hk).2.cells] at h1
  cases h1
theorem Cop.new (h : Cop w B M g F o m) (hc : Chg (fun _ => False) w w') : Cop w' B M g F o m :=
  ⟨h.base, h.map.congr (hc.block _ h.map.lt (by simp)), h.noneF, fun k fl ap hk => ⟨(h.someF k fl ap hk).1, (h.someF k fl ap hk).2.congr (hc.block _ (blk_lt (h.someF k fl ap hk).2.cells) (by simp)) (hc.block _ (h.someF k fl ap hk).2.set.lt (by simp))⟩, h.inj⟩

/-- one opening's record is turned -/
theorem Cop.touch (h : Cop w B M g F o m) {k : OKey} {fl fl' : Int} {ap ap' : Int → Bool} (hk : g k = some (fl, ap)) (hc : Chg (fun b => b = o k ∨ b = m k) w w') (hn : OpnAt w' B M (o k) (m k) fl' ap') :
    Cop w' B M (gset g k (fl', ap')) F o m := by
  have hM : M ≠ o k ∧ M ≠ m k := ⟨fun e => h.oM hk e.symm, fun e => (h.someF k fl ap hk).2.ne e.symm⟩
  refine ⟨h.base, h.map.congr (hc.block _ h.map.lt (by simp [hM.1, hM.2])), ?_, ?_, ?_⟩
  · intro x hx
    by_cases e : x = k
    · rw [e, gset_same] at hx; cases hx
    · rw [gset_other g _ e] at hx; exact h.noneF x hx
  · intro x flx apx hx
    by_cases e : x = k
    · subst e
      rw [gset_same] at hx
      simp only [Option.some.injEq, Prod.mk.injEq] at hx
      obtain ⟨rfl, rfl⟩ := hx
      exact ⟨(h.someF x fl ap hk).1, hn⟩
    · rw [gset_other g _ e] at hx
      obtain ⟨h1, h2⟩ := h.someF x flx apx hx
      obtain ⟨i1, i2⟩ := h.inj x k e (by simp [hx]) (by simp [hk])
      have c1 : o x ≠ m k := by
        intro e'
        obtain ⟨l, c, h3, _⟩ := (h.someF k fl ap hk).2.set
        rw [← e', h2.cells] at h3
        cases h3
      have c2 : m x ≠ o k := by
        intro e'
        obtain ⟨l, c, h3, _⟩ := h2.set
        rw [e', (h.someF k fl ap hk).2.cells] at h3
        cases h3
      exact ⟨h1, h2.congr (hc.block _ (blk_lt h2.cells) (by simp [i1, c1])) (hc.block _ h2.set.lt (by simp [i2, c2]))⟩
  · intro x y hxy hx hy
    refine h.inj x y hxy ?_ ?_
    · by_cases e : x = k
      · subst e; simp [hk]
      · rwa [gset_other g _ e] at hx
    · by_cases e : y = k
      · subst e; simp [hk]
      · rwa [gset_other g _ e] at hy

/-- a new opening's record is laid -/
theorem Cop.add (h : Cop w B M g F o m) (hB : B ≤ w.heap.size) {k : OKey} (hk : g k = none) {w1 w2 : World} {O m0 : Nat} (hc1 : Chg (fun _ => False) w w1) (hm0 : w.heap.size ≤ m0) (hO : w.heap.size ≤ O)
    (h1 : w1.heap[O]? = some (.cells #[.int .u64 0, .map (some m0)] 78 (0, 0))) (h2 : MapFn eqU encU w1 m0 (fun _ => none))
    (hc2 : Chg (· = M) w1 w2) (hF : MapFn eqK encK w2 M (upd eqK F k (.pointer (some ⟨O, 0, none⟩)))) :
    Cop w2 B M (gset g k (0, fun _ => false)) (upd eqK F k (.pointer (some ⟨O, 0, none⟩))) (fun x => if eqK x k then O else o x) (fun x => if eqK x k then m0 else m x) := by
  have hML : M < w.heap.size := h.map.lt
  have hne : ∀ x, x ≠ k → eqK x k = false := by
    intro x hx
    cases hh : eqK x k
    · rfl
    · exact absurd ((eqK_iff _ _).1 hh) hx
  have hkk : eqK k k = true := (eqK_iff _ _).2 rfl
  refine ⟨h.base, hF, ?_, ?_, ?_⟩
  · intro x hx
    by_cases e : x = k
    · rw [e, gset_same] at hx; cases hx
    · rw [gset_other g _ e] at hx
      simp [upd, hne x e, h.noneF x hx]
  · intro x flx apx hx
    by_cases e : x = k
    · subst e
      rw [gset_same] at hx
      simp only [Option.some.injEq, Prod.mk.injEq] at hx
      obtain ⟨rfl, rfl⟩ := hx
      simp only [upd, hkk, if_true]
      refine ⟨trivial, ⟨by omega, by omega, by omega, hc2.blk h1 (by omega), ?_⟩⟩
      exact (h2.congr (hc2.block _ h2.lt (by omega))).ext (fun _ => rfl)
    · rw [gset_other g _ e] at hx
      simp only [upd, hne x e, Bool.false_eq_true, if_false]
      obtain ⟨e1, e2⟩ := h.someF x flx apx hx
      have b1 := blk_lt e2.cells
      have b2 := e2.set.lt
      have hs := hc1.size
      exact ⟨e1, e2.congr ((hc2.block _ (by omega) (h.oM hx)).trans (hc1.block _ b1 (by simp))) ((hc2.block _ (by omega) e2.ne).trans (hc1.block _ b2 (by simp)))⟩
  · intro x y hxy hx hy
    by_cases e : x = k
    · have e' : y ≠ k := fun e' => hxy (e.trans e'.symm)
      simp only [e, hkk, if_true, hne y e', Bool.false_eq_true, if_false]
      rw [gset_other g _ e'] at hy
      obtain ⟨⟨fl, ap⟩, hy'⟩ := Option.isSome_iff_exists.1 hy
      have b1 := blk_lt (h.someF y fl ap hy').2.cells
      have b2 := (h.someF y fl ap hy').2.set.lt
      omega
    · by_cases e' : y = k
      · simp only [e', hkk, if_true, hne x e, Bool.false_eq_true, if_false]
        rw [gset_other g _ e] at hx
        obtain ⟨⟨fl, ap⟩, hx'⟩ := Option.isSome_iff_exists.1 hx
        have b1 := blk_lt (h.someF x fl ap hx').2.cells
        have b2 := (h.someF x fl ap hx').2.set.lt
        omega
      · simp only [hne x e, hne y e', Bool.false_eq_true, if_false]
        rw [gset_other g _ e] at hx
        rw [gset_other g _ e'] at hy
        exact h.inj x y hxy hx hy
theorem Keep.touch (h : Cop w B M g F o m) {k : OKey} {fl : Int} {ap : Int → Bool} (hk : g k = some (fl, ap)) (hc : Chg (fun b => b = o k ∨ b = m k) w w') : Keep w w' := by
  intro i c t fr hi ht
  refine hc.blk hi ?_
  rintro (e | e)
  · rw [e, (h.someF k fl ap hk).2.cells] at hi
    simp at hi
    exact ht hi.2.1.symm
  · obtain ⟨l, cl, h3, _⟩ := (h.someF k fl ap hk).2.set
    rw [e, h3] at hi
    cases hi
theorem Keep.map {f : OKey → Option Value} (h : MapFn eqK encK w M f) (hc : Chg (· = M) w w') : Keep w w' := by
  intro i c t fr hi ht
  refine hc.blk hi ?_
  intro e
  obtain ⟨l, cl, h3, _⟩ := h
  rw [e, h3] at hi
  cases hi
end
end Go.Proofs.Qxb6603459aMods
