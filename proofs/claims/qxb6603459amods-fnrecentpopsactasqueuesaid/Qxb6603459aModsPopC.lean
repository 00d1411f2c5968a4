/- where the pop laws stand behind pop. Own work. -/
import Derived.Test.Qxb6603459aModsKept
import Derived.Test.Qxb6603459aModsLaw6
import Derived.Deep.RegionHeld3
import Derived.Deep.DeepCutAuto
namespace Go.Proofs.Qxb6603459aMods
open Go.RowKit Go.MapFns
set_option linter.unusedVariables false

theorem CksAt.rd {w : World} {R : Nat} {F : Fl} {L : List Ck} (hf : w.heap[R]? = some (.cells (recArr F) 70 (0, 0))) (h : CksAt w F.cv L) : RdRep w R F L := by
  obtain ⟨co, cq, e, hle, hv⟩ := h.view
  refine ⟨hf, ⟨co, cq, e, fun i c hi => ?_⟩, h.bufs⟩
  obtain ⟨g, off, arr, e1, hb, c0, c1⟩ := hv i c hi
  exact ⟨g, off, e1, by rw [cell_of_row w _ _ _ _ _ hb]; exact c0, by rw [cell_of_row w _ _ _ _ _ hb]; exact c1⟩
theorem rd_nil {w : World} {R : Nat} {F : Fl} (hf : w.heap[R]? = some (.cells (recArr F) 70 (0, 0))) (h : F.cv = .slice none 0 0) : RdRep w R F [] :=
  ⟨hf, ⟨none, 0, h, fun i c hi => by simp at hi⟩, fun c hc => by simp at hc⟩
theorem EndsAt.elems {w : World} {eb m ec : Nat} {ef : Nat → Int} (h : EndsAt w eb m ec ef) : ElemsIn w (some ⟨eb, 0, none⟩) m (i6 ef) := by
  intro i hi
  obtain ⟨arr, hb, ha⟩ := h.row
  exact ⟨eb, 0, rfl, by rw [Nat.zero_add, cell_of_row w _ _ _ _ _ hb]; exact ha i hi⟩

/-- the law's own copies, still as they were -/
structure Own7 (w w7 : World) (o1 o2 : Option Addr) (en cn : Nat) (ef : Nat → Int) (K' : CkIn) : Prop where
  bel : Below w.heap.size w w7
  ck : ChunksIn w7 o2 cn K'
  e1 : ElemsIn w7 o1 en (i6 ef)
theorem Own7.new {w w7 w8 : World} {o1 o2 : Option Addr} {en cn : Nat} {ef : Nat → Int} {K' : CkIn} (h : Own7 w w7 o1 o2 en cn ef K') (hc : Chg (fun _ => False) w7 w8) : Own7 w w8 o1 o2 en cn ef K' :=
  ⟨h.bel.trans (hc.below h.bel.size (by simp)), h.ck.chg hc.toBelow (Nat.le_refl _), h.e1.chg hc (by simp)⟩

/-- ahead of the first pop: w1, w2 hold the law's copies, w4 the copy that the record takes, w5 the record -/
structure Pre7 (w w5 : World) (R eb : Nat) (F : Fl) (L : List Ck) (o1 o2 : Option Addr) (en cn : Nat) (ef : Nat → Int) (K' : CkIn) : Prop where
  st : PopSt w5 w5 R eb F L en en ef
  is_ : ListIs L cn K'
  own : ∀ w6, Chg (fun i => i = R ∨ i = eb) w5 w6 → Own7 w w6 o1 o2 en cn ef K'

theorem pre7_of {w w1 w2 w4 w5 : World} {o1 o2 o4 eo : Option Addr} {cn en : Nat} {K' : CkIn} {ef : Nat → Int} {room first head start chunked next : Int} {fresh : Bool} {cv : Value} {L : List Ck}
    (h1 : Cl w w1 o1 eo en 2 (i6 ef)) (h12 : Chg (fun _ => False) w1 w2) (hck : ChunksIn w2 o2 cn K') (h4 : Cl w2 w4 o4 o1 en 2 (i6 ef)) (h5 : BldR w4 w5 cn K' room first head start chunked next fresh (.slice o4 en en) cv L) (hpos : 0 < en) :
    o1 = some ⟨w.heap.size, 0, none⟩ ∧ o4 = some ⟨w2.heap.size, 0, none⟩ ∧ Pre7 w w5 w4.heap.size w2.heap.size ⟨room, first, .slice o4 en en, head, start, cv, chunked, next, fresh⟩ L o1 o2 en cn ef K' := by
  have e1 := h1.elems
  have c1 := h1.chg
  rcases h1 with ⟨_, _, h0, _⟩ | ⟨ha1, rfl, hw1⟩
  · omega
  rcases h4 with ⟨_, _, h0, _⟩ | ⟨ha4, rfl, hw4⟩
  · omega
  have hsz1 : w1.heap.size = w.heap.size + 1 := by rw [hw1]; simp
  have hsz4 : w4.heap.size = w2.heap.size + 1 := by rw [hw4]; simp
  have hsz2 := h12.size
  have c4 : Chg (fun _ => False) w2 w4 := by rw [hw4]; exact Chg.alloc _ _ _
  have hblk : w4.heap[w2.heap.size]? = some (.cells (arrN en (i6 ef)) 2 (0, 0)) := by rw [hw4]; exact heap_alloc_new _ _
  have hblk5 : w5.heap[w2.heap.size]? = some (.cells (arrN en (i6 ef)) 2 (0, 0)) := by rw [h5.bel.block _ (by omega)]; exact hblk
  refine ⟨rfl, rfl, ⟨h5.rep.fields, ⟨Nat.le_refl _, _, hblk5, fun i hi => get_arrN _ hi⟩, h5.rep.cks, Chg.refl _ _⟩, h5.is_, ?_⟩
  intro w6 hc6
  have b45 : Below w2.heap.size w2 w5 := (c4.toBelow).trans (h5.bel.mono (by omega))
  have b56 : Below w2.heap.size w5 w6 := hc6.below b45.size (fun i hi => by omega)
  have b26 := b45.trans b56
  refine ⟨((c1.trans h12).toBelow).trans (b26.mono (by omega)), hck.chg b26 (Nat.le_refl _), ?_⟩
  refine (e1.chg h12 (by simp)).bel b26 ?_
  intro b off e
  simp at e
  omega

theorem eqnil68 (w : World) (a : Option Addr) (n c : Nat) : (binOp .eql 68 (.slice a n c) (.slice none 0 0)).run Trym.prog w = .ok (.bool a.isNone) w :=
  Lib.run_eql_slice_nil w 68 72 a n c 0 0 Trym.underlying68

attribute [local go_sem] eqnil68
theorem nil31 (w : World) (R : Nat) (F : Fl) (hf : w.heap[R]? = some (.cells (recArr F) 70 (0, 0))) (hcv : F.cv = .slice none 0 0) :
    Calls Trym.prog 31 #[.pointer (some ⟨R, 0, none⟩)] w fun e w' => e = .returned (.bool true) ∧ w' = w := by
  have f5 := (fieldsCells hf).2.2.2.2.2.1
  rw [hcv] at f5
  clear hf
  go_enter Trym.func31, Trym.ntmps31
  go_wp2
  go_ret
  exact ⟨rfl, rfl⟩

theorem pop30 (w : World) (R : Nat) (F : Fl) (L : List Ck) (eb m ec h : Nat) (ef : Nat → Int) (hm : m ≤ 65536) (hh : h < m) (hev : F.ev = .slice (some ⟨eb, 0, none⟩) m ec) (hhd : F.head = h) (hf : w.heap[R]? = some (.cells (recArr F) 70 (0, 0))) (he : EndsAt w eb m ec ef) (hk : CksAt w F.cv L) (hL : L.length ≤ 5000) (hch : wrap64 F.chunked = F.chunked) :
    Calls Trym.prog 30 #[.pointer (some ⟨R, 0, none⟩)] w fun e w' => e = .returned (.tuple #[]) ∧ PopRes w w' R eb F L m ec h ef (IntKind.u64.wrap (F.first + 1)) := by
  have H : Hid (Calls _ _ _ _ _) := pop38 w R F L eb m ec h ef hm hh hev hhd hf he hk hL hch
  clear hm hh hev hhd hf he hk hL hch
  go_enter Trym.func30, Trym.ntmps30
  go_wp2_with (go_at_call 38; refine H.out.mono ?_; rintro e w' ⟨rfl, hp⟩)
  have HP : Hid (PopRes w w' R eb F L m ec h ef (IntKind.u64.wrap (F.first + 1))) := hp
  clear hp
  go_end0
  exact ⟨rfl, HP.out⟩

/-- the chunks that are left, as the law reads them -/
theorem kept_of {w w7 : World} {R : Nat} {F : Fl} {L : List Ck} {o1 o2 : Option Addr} {en cn k : Nat} {ef : Nat → Int} {K' : CkIn} {s : Int} (hr : RdRep w7 R F (L.drop k)) (ho : Own7 w w7 o1 o2 en cn ef K') (hl : ListIs L cn K') (hd : Drops s L k) (hc : cn ≤ 4096) (hk : ∀ i, i < cn → K'.bl i ≤ 65536 ∧ (K'.bl i : Int) ≤ K'.cp i ∧ K'.cp i ≤ 65536) : KeptIn w7 R F (L.drop k) o2 cn K' s k := by
  have hle := hd.le
  rw [hl.1] at hle
  refine ⟨hr, ho.ck, hle, hc, hk, ?_, ?_, by rw [List.length_drop, hl.1], ?_⟩
  · intro i hi
    obtain ⟨blk, hb⟩ := hl.2 i (by omega)
    have := hd.go i _ hi hb
    have e : ((K'.cp i).toNat : Int) = K'.cp i := by have := hk i (by omega); omega
    simp only [e] at this
    exact this
  · intro hlt
    obtain ⟨blk, hb⟩ := hl.2 k hlt
    have := hd.stop _ hb
    have e : ((K'.cp k).toNat : Int) = K'.cp k := by have := hk k hlt; omega
    simp only [e] at this
    exact this
  · intro i hki hi
    obtain ⟨blk, hb⟩ := hl.2 i hi
    exact ⟨blk, by rw [List.getElem?_drop, show k + (i - k) = i by omega]; exact hb⟩
theorem wsum_cap {L : List Ck} {cn k : Nat} {K' : CkIn} (hl : ListIs L cn K') (hle : k ≤ L.length) (hk : ∀ i, i < cn → K'.bl i ≤ 65536 ∧ (K'.bl i : Int) ≤ K'.cp i ∧ K'.cp i ≤ 65536) : wsum (capOf L) k = wsum K'.cp k := by
  refine wsum_congr k fun i hi => ?_
  have hle' := hl.1
  obtain ⟨blk, hb⟩ := hl.2 i (by omega)
  unfold capOf
  rw [hb]
  have := hk i (by omega)
  show (((K'.cp i).toNat : Nat) : Int) = _
  omega
end Go.Proofs.Qxb6603459aMods
