import Derived.Test.Qxb6603459aModsKeys
import Derived.Deep.DeepCutAuto
import Derived.Maps.RangeWalk
namespace Go.Proofs.Qxb6603459aMods
open Go.RowKit Go.MapFns

theorem zero75 (w : World) : (zeroValue 75).run Trym.prog w = .ok (.pointer none) w := by kernel_rfl
theorem zero4 (w : World) : (zeroValue 4).run Trym.prog w = .ok (.bool false) w := by kernel_rfl

/-- where the two ways of 'if o == nil' meet -/
structure Mid (w : World) (B M : Nat) (g : Gst) (k : OKey) (s : Int) (O : Nat) (wx : World) (g1 : Gst) (F1 : OKey → Option Value) (o1 m1 : OKey → Nat) (fl : Int) (ap : Int → Bool) : Prop where
  cop : Cop wx B M g1 F1 o1 m1
  hk : g1 k = some (fl, ap)
  hO : O = o1 k
  hcur : (fl, ap) = cur g k
  hoth : ∀ x, x ≠ k → g1 x = g x
  bel : Below B w wx
  keep : Keep w wx
  hlt : w.heap.size < wx.heap.size
  box : wx.heap[w.heap.size]? = some (.cells #[.int .u64 k.1, .int .u64 k.2, .int .u64 s] 64 (0, 0))

/-- where the two ways of 'if floor > o.floor' meet -/
structure Mid3 (w : World) (B M : Nat) (g : Gst) (k : OKey) (s : Int) (wx : World) (g1 : Gst) (F1 : OKey → Option Value) (o1 m1 : OKey → Nat) (fl : Int) (ap : Int → Bool) (f : Int) : Prop where
  cop : Cop wx B M (gset g1 k (flr fl f, swp ap fl f)) F1 o1 m1
  bel : Below B w wx
  keep : Keep w wx
  box : wx.heap[w.heap.size]? = some (.cells #[.int .u64 k.1, .int .u64 k.2, .int .u64 s] 64 (0, 0))

/-- the sweep's relation -/
structure Swp (wc : World) (o m : Nat) (f : Int) (ap : Int → Bool) (clock : Nat) (wr : World) (l : List (Int × Value × Nat)) (seen : Array Nat) : Prop where
  rng : Rng encU wr wc.heap.size m l clock seen
  old : ∀ t ∈ l, seen.contains t.2.2 = true → ¬ t.1 < f
  hi : ∀ x, ¬ x < f → MapFns.look eqU l x = setFn ap x
  any : ∀ x, MapFns.look eqU l x = none ∨ MapFns.look eqU l x = setFn ap x
  chg : Chg (· = m) (wc.setCell ⟨o, 0, none⟩ (.int .u64 f)) wr

theorem swp_start {wc : World} {o m : Nat} {f : Int} {ap : Int → Bool} {clock : Nat} {l : List (Int × Value × Nat)}
    (h1 : (wc.setCell ⟨o, 0, none⟩ (.int .u64 f)).heap[m]? = some (.map (ents encU l) clock)) (h2 : Tidy l clock) (h3 : ∀ k, MapFns.look eqU l k = setFn ap k) :
    Swp wc o m f ap clock ((wc.setCell ⟨o, 0, none⟩ (.int .u64 f)).alloc (.mapIter (some m) clock #[] clock)) l #[] := by
  have := Rng.start h1 h2
  refine ⟨by simpa using this, by simp, fun x _ => h3 x, fun x => .inr (h3 x), Chg.alloc _ _ _⟩

theorem Swp.next {wc wr w0 : World} {o m : Nat} {f : Int} {ap : Int → Bool} {clock : Nat} {l : List (Int × Value × Nat)} {seen : Array Nat} (h : Swp wc o m f ap clock wr l seen) {t : Int × Value × Nat} (ht : t ∈ unseen l seen) (hw : w0 = wr ∨ w0 = wr.drew) :
    Chg (· = m) (wc.setCell ⟨o, 0, none⟩ (.int .u64 f)) (setO w0 wc.heap.size (.mapIter (some m) clock (seen.push t.2.2) clock)) ∧
    (¬ t.1 < f → Swp wc o m f ap clock (setO w0 wc.heap.size (.mapIter (some m) clock (seen.push t.2.2) clock)) l (seen.push t.2.2)) ∧
    (t.1 < f → Swp wc o m f ap clock (setO (setO w0 wc.heap.size (.mapIter (some m) clock (seen.push t.2.2) clock)) m (.map (ents encU (MapFns.drop eqU l t.1)) clock)) (MapFns.drop eqU l t.1) (seen.push t.2.2)) := by
  have hR := h.rng.next t.2.2 hw
  have c0 : Chg (· = m) (wc.setCell ⟨o, 0, none⟩ (.int .u64 f)) w0 := by
    rcases hw with rfl | rfl
    · exact h.chg
    · exact h.chg.trans (Chg.drew _ _)
  have c1 : Chg (· = m) (wc.setCell ⟨o, 0, none⟩ (.int .u64 f)) (setO w0 wc.heap.size (.mapIter (some m) clock (seen.push t.2.2) clock)) :=
    ⟨c0.os, c0.tape, c0.output, by rw [setO_size]; exact c0.size, fun k hk hn => by rw [setO_other (by simp at hk; omega)]; exact c0.block k hk hn⟩
  refine ⟨c1, ?_, ?_⟩
  · intro hx
    refine ⟨hR, ?_, h.hi, h.any, c1⟩
    intro u hu hs
    by_cases e : u.2.2 = t.2.2
    · have htl := (List.mem_filter.1 ht).1
      have : u = t := by
        have hn := h.rng.tidy.2.1
        exact MapFns.born_inj hn hu htl e
      rw [this]; exact hx
    · refine h.old u hu ?_
      simp only [Array.contains_push] at hs
      simpa [e] using hs
  · intro hx
    refine ⟨hR.drop t.1, ?_, ?_, ?_, c1.trans (Chg.setO _ _ _)⟩
    · intro u hu hs
      have hu' := List.mem_filter.1 hu
      by_cases e : u.2.2 = t.2.2
      · have htl := (List.mem_filter.1 ht).1
        have : u = t := MapFns.born_inj h.rng.tidy.2.1 hu'.1 htl e
        rw [this] at hu'
        simp at hu'
      · refine h.old u hu'.1 ?_
        simp only [Array.contains_push] at hs
        simpa [e] using hs
    · intro x hxf
      rw [look_drop key31.eqk_iff]
      have : eqU x t.1 = false := by simp; omega
      rw [this]
      exact h.hi x hxf
    · intro x
      rw [look_drop key31.eqk_iff]
      split
      · exact .inl rfl
      · exact h.any x

theorem swp_end {wc wr : World} {o m : Nat} {f : Int} {ap : Int → Bool} {clock : Nat} {l : List (Int × Value × Nat)} {seen : Array Nat} (h : Swp wc o m f ap clock wr l seen) (hu : unseen l seen = []) {fl : Int} (hf : fl < f) :
    MapFn eqU encU wr m (setFn (swp ap fl f)) := by
  refine ⟨l, clock, h.rng.map, h.rng.tidy, fun x => ?_⟩
  by_cases hx : x < f
  · have : MapFns.look eqU l x = none := by
      refine look_none key31.eqk_iff ?_
      intro hm
      obtain ⟨t, ht, e⟩ := List.mem_map.1 hm
      have hs : seen.contains t.2.2 = true := by
        cases hc : seen.contains t.2.2
        · have : t ∈ unseen l seen := List.mem_filter.2 ⟨ht, by rw [hc]; rfl⟩
          rw [hu] at this
          cases this
        · rfl
      have := h.old t ht hs
      rw [e] at this
      exact this hx
    rw [this]
    have hn : ¬ f ≤ x := by omega
    have hn2 : ¬ f ≤ fl := by omega
    simp [setFn, swp, hn, hn2]
  · rw [h.hi x hx]
    have hn : f ≤ x := by omega
    simp [setFn, swp, hn]

theorem mid3_same {w : World} {B M : Nat} {g : Gst} {k : OKey} {s : Int} {wx : World} {g1 : Gst} {F1 : OKey → Option Value} {o1 m1 : OKey → Nat} {fl : Int} {ap : Int → Bool} {f : Int}
    (h : Mid w B M g k s (o1 k) wx g1 F1 o1 m1 fl ap) (hat : OpnAt wx B M (o1 k) (m1 k) fl ap) (hf : ¬ fl < f) : Mid3 w B M g k s wx g1 F1 o1 m1 fl ap f := by
  have e1 : flr fl f = fl := by simp [flr, hf]
  have e2 : swp ap fl f = ap := by
    funext x
    have : f ≤ fl := by omega
    simp [swp, this]
  refine ⟨?_, h.bel, h.keep, h.box⟩
  rw [e1, e2]
  exact h.cop.touch h.hk (Chg.refl _ _) hat

theorem mid3_swept {w : World} {B M : Nat} {g : Gst} {k : OKey} {s : Int} {wx wr : World} {g1 : Gst} {F1 : OKey → Option Value} {o1 m1 : OKey → Nat} {fl : Int} {ap : Int → Bool} {f : Int} {clock : Nat} {l : List (Int × Value × Nat)} {seen : Array Nat}
    (hB : B ≤ w.heap.size) (h : Mid w B M g k s (o1 k) wx g1 F1 o1 m1 fl ap) (hat : OpnAt wx B M (o1 k) (m1 k) fl ap) (hf : fl < f) (hS : Swp wx (o1 k) (m1 k) f ap clock wr l seen) (hu : unseen l seen = []) : Mid3 w B M g k s wr g1 F1 o1 m1 fl ap f := by
  have e1 : flr fl f = f := by simp [flr, hf]
  have hc : Chg (fun b => b = o1 k ∨ b = m1 k) wx wr :=
    (Chg.setCell wx ⟨o1 k, 0, none⟩ (.int .u64 f) (by simp)).trans (hS.chg.mono fun _ _ h => .inr h)
  have hcell : wr.heap[o1 k]? = some (.cells #[.int .u64 f, .map (some (m1 k))] 78 (0, 0)) := by
    refine hS.chg.blk ?_ hat.om
    rw [heap_setCell_same wx _ _ _ _ _ hat.cells]
    rfl
  have hbel : Below B wx wr := hc.below (Nat.le_trans hB (Nat.le_of_lt h.hlt)) (fun i hi => by rcases hi with rfl | rfl; exact hat.bo; exact hat.bm)
  have hkp : Keep wx wr := Keep.touch h.cop h.hk hc
  refine ⟨?_, h.bel.trans hbel, h.keep.trans hkp, hkp _ _ _ _ h.box (by decide)⟩
  rw [e1]
  exact h.cop.touch h.hk hc ⟨hat.bo, hat.bm, hat.ne, hcell, swp_end hS hu hf⟩

abbrev idBox (k : OKey) (s : Int) : Obj := .cells #[.int .u64 k.1, .int .u64 k.2, .int .u64 s] 64
abbrev keyBox (k : OKey) : Obj := .cells #[.int .u64 k.1, .int .u64 k.2] 74

theorem mid_old {w : World} {B M : Nat} {g : Gst} {F : OKey → Option Value} {o m : OKey → Nat} (h : Cop w B M g F o m) (hB : B ≤ w.heap.size) (k : OKey) (s : Int) {v : Opn} (hg : g k = some v) :
    Mid w B M g k s (o k) ((w.alloc (idBox k s)).alloc (keyBox k)) g F o m v.1 v.2 := by
  have hc := (Chg.alloc (fun _ => False) w (idBox k s)).trans (Chg.alloc (fun _ => False) _ (keyBox k))
  refine ⟨h.new hc, hg, rfl, by simp [cur, hg], fun _ _ => rfl, hc.below hB (by simp), Keep.new hc, by simp; omega, ?_⟩
  rw [Below.heap_alloc _ _ _ (by simp)]
  exact heap_alloc_new _ _

theorem mid_new {w : World} {B M : Nat} {g : Gst} {F : OKey → Option Value} {o m : OKey → Nat} (h : Cop w B M g F o m) (hB : B ≤ w.heap.size) (k : OKey) (s : Int) (hg : g k = none) (ob : Obj)
    (hfn : MapFn eqK encK (setO ((((w.alloc (idBox k s)).alloc (keyBox k)).alloc (.map #[] 0)).alloc (.cells #[.int .u64 0, .map (some (w.heap.size + 1 + 1))] 78)) M ob) M (upd eqK F k (.pointer (some ⟨w.heap.size + 1 + 1 + 1, 0, none⟩)))) :
    Mid w B M g k s (w.heap.size + 1 + 1 + 1) (setO ((((w.alloc (idBox k s)).alloc (keyBox k)).alloc (.map #[] 0)).alloc (.cells #[.int .u64 0, .map (some (w.heap.size + 1 + 1))] 78)) M ob)
      (gset g k (0, fun _ => false)) (upd eqK F k (.pointer (some ⟨w.heap.size + 1 + 1 + 1, 0, none⟩))) (fun x => if eqK x k then w.heap.size + 1 + 1 + 1 else o x) (fun x => if eqK x k then w.heap.size + 1 + 1 else m x) 0 (fun _ => false) := by
  have hcA := (Chg.alloc (fun _ => False) w (idBox k s)).trans (Chg.alloc (fun _ => False) _ (keyBox k))
  have hcM := hcA.trans (Chg.alloc (fun _ => False) _ (.map #[] 0))
  have hcB := hcM.trans (Chg.alloc (fun _ => False) _ (.cells #[.int .u64 0, .map (some (w.heap.size + 1 + 1))] 78))
  have hM := h.map.lt
  have hkk : eqK k k = true := (eqK_iff _ _).2 rfl
  have s1 : ((w.alloc (idBox k s)).alloc (keyBox k)).heap.size = w.heap.size + 1 + 1 := by simp
  have s2 : (((w.alloc (idBox k s)).alloc (keyBox k)).alloc (.map #[] 0)).heap.size = w.heap.size + 1 + 1 + 1 := by simp
  have hset := MapFn.made (eqk := eqU) (enc := encU) ((w.alloc (idBox k s)).alloc (keyBox k))
  rw [s1] at hset
  have hset2 := hset.congr (w' := (((w.alloc (idBox k s)).alloc (keyBox k)).alloc (.map #[] 0)).alloc (.cells #[.int .u64 0, .map (some (w.heap.size + 1 + 1))] 78)) (Below.heap_alloc _ _ _ (by rw [s2]; omega))
  have hcell := heap_alloc_new (((w.alloc (idBox k s)).alloc (keyBox k)).alloc (.map #[] 0)) (.cells #[.int .u64 0, .map (some (w.heap.size + 1 + 1))] 78)
  rw [s2] at hcell
  have hcO := Chg.setO ((((w.alloc (idBox k s)).alloc (keyBox k)).alloc (.map #[] 0)).alloc (.cells #[.int .u64 0, .map (some (w.heap.size + 1 + 1))] 78)) M ob
  have hcop := h.add hB hg hcB (m0 := w.heap.size + 1 + 1) (O := w.heap.size + 1 + 1 + 1) (by omega) (by omega) hcell hset2 hcO hfn
  refine ⟨hcop, gset_same _ _ _, by simp [hkk], by simp [cur, hg], fun x hx => gset_other _ _ hx, (hcB.below hB (by simp)).trans (hcO.below (by simp; omega) (fun i hi => by have := h.base; omega)), (Keep.new hcB).trans (Keep.map (h.new hcB).map hcO), by rw [setO_size]; simp; omega, ?_⟩
  rw [setO_other (by omega), Below.heap_alloc _ _ _ (by simp; omega), Below.heap_alloc _ _ _ (by simp; omega), Below.heap_alloc _ _ _ (by simp)]
  exact heap_alloc_new _ _

theorem Chg.drewN (S : Nat → Prop) (w : World) (n : Nat) : Chg S w (w.drewN n) := ⟨rfl, rfl, rfl, Nat.le_refl _, fun _ _ _ => rfl⟩

theorem gstep_eq {w : World} {B M : Nat} {g : Gst} {k : OKey} {s : Int} {O : Nat} {wx : World} {g1 : Gst} {F1 : OKey → Option Value} {o1 m1 : OKey → Nat} {fl : Int} {ap : Int → Bool}
    (h : Mid w B M g k s O wx g1 F1 o1 m1 fl ap) (f : Int) : gstep g k s f = gset g1 k (nst fl ap s f) := by
  funext x
  unfold gstep gset
  rw [← h.hcur]
  by_cases e : x = k
  · simp [(eqK_iff x k).2 e]
  · have : eqK x k = false := by
      cases hh : eqK x k
      · rfl
      · exact absurd ((eqK_iff _ _).1 hh) e
    simp [this, h.hoth x e]

theorem fin_no {w : World} {B M : Nat} {g : Gst} {k : OKey} {s : Int} {O : Nat} {wx wc : World} {g1 : Gst} {F1 : OKey → Option Value} {o1 m1 : OKey → Nat} {fl : Int} {ap : Int → Bool} {f : Int}
    (hB : B ≤ w.heap.size) (h : Mid w B M g k s O wx g1 F1 o1 m1 fl ap) (h3 : Mid3 w B M g k s wc g1 F1 o1 m1 fl ap f) (ha : ans fl ap s f = false) (n : Nat) :
    Ending.returned (.bool false) = Ending.returned (.bool (ans (cur g k).1 (cur g k).2 s f)) ∧ (∃ F' o' m', Cop (wc.drewN n) B M (gstep g k s f) F' o' m') ∧ Below B w (wc.drewN n) ∧ Keep w (wc.drewN n) := by
  have hc : Chg (fun _ => False) wc (wc.drewN n) := Chg.drewN _ _ _
  refine ⟨by rw [← h.hcur, ha], ⟨F1, o1, m1, ?_⟩, h3.bel.trans (hc.below (Nat.le_trans hB h3.bel.size) (by simp)), h3.keep.trans (Keep.new hc)⟩
  rw [gstep_eq h]
  have : nst fl ap s f = (flr fl f, swp ap fl f) := by simp [nst, ha]
  rw [this]
  exact h3.cop.new hc

theorem gset_gset (g : Gst) (k : OKey) (a b : Opn) : gset (gset g k a) k b = gset g k b := by
  funext x
  unfold gset
  cases eqK x k <;> simp

theorem fin_yes {w : World} {B M : Nat} {g : Gst} {k : OKey} {s : Int} {O : Nat} {wx wc : World} {g1 : Gst} {F1 : OKey → Option Value} {o1 m1 : OKey → Nat} {fl : Int} {ap : Int → Bool} {f : Int} {n : Nat} {ob : Obj}
    (hB : B ≤ w.heap.size) (h : Mid w B M g k s O wx g1 F1 o1 m1 fl ap) (h3 : Mid3 w B M g k s wc g1 F1 o1 m1 fl ap f) (hat : OpnAt wc B M (o1 k) (m1 k) (flr fl f) (swp ap fl f)) (hs : ¬ s < flr fl f) (hsw : swp ap fl f s = false)
    (hU : MapFn eqU encU (setO (wc.drewN n) (m1 k) ob) (m1 k) (upd eqU (setFn (swp ap fl f)) s (.bool true))) :
    Ending.returned (.bool true) = Ending.returned (.bool (ans (cur g k).1 (cur g k).2 s f)) ∧ (∃ F' o' m', Cop (setO (wc.drewN n) (m1 k) ob) B M (gstep g k s f) F' o' m') ∧ Below B w (setO (wc.drewN n) (m1 k) ob) ∧ Keep w (setO (wc.drewN n) (m1 k) ob) := by
  have ha : ans fl ap s f = true := by
    have : flr fl f ≤ s := by omega
    simp [ans, hsw, this]
  have hc0 : Chg (· = m1 k) (wc.drewN n) (setO (wc.drewN n) (m1 k) ob) := Chg.setO _ _ _
  have hc : Chg (fun b => b = o1 k ∨ b = m1 k) wc (setO (wc.drewN n) (m1 k) ob) := (Chg.drewN _ _ _).trans (hc0.mono fun _ _ h => .inr h)
  have hk2 := gset_same g1 k (flr fl f, swp ap fl f)
  have hcell : (setO (wc.drewN n) (m1 k) ob).heap[o1 k]? = some (.cells #[.int .u64 (flr fl f), .map (some (m1 k))] 78 (0, 0)) := by
    rw [setO_other hat.om]
    exact hat.cells
  have hnew : OpnAt (setO (wc.drewN n) (m1 k) ob) B M (o1 k) (m1 k) (nst fl ap s f).1 (nst fl ap s f).2 := by
    refine ⟨hat.bo, hat.bm, hat.ne, hcell, hU.ext fun x => ?_⟩
    simp only [upd, setFn, nst, ha, Bool.true_and]
    cases e : eqU x s
    · have e' : (x == s) = false := e
      simp [e']
    · have e' : (x == s) = true := e
      simp [e']
  refine ⟨by rw [← h.hcur, ha], ⟨F1, o1, m1, ?_⟩, h3.bel.trans (hc.below (Nat.le_trans hB h3.bel.size) (fun i hi => by rcases hi with rfl | rfl; exact hat.bo; exact hat.bm)), h3.keep.trans (Keep.touch h3.cop hk2 hc)⟩
  have := h3.cop.touch hk2 hc hnew
  rw [gset_gset] at this
  rw [gstep_eq h]
  exact this

attribute [local go_sem] run_makeMap_fn

set_option maxHeartbeats 800000 in
theorem first34 (w : World) (B M : Nat) (g : Gst) (F : OKey → Option Value) (o m : OKey → Nat) (hcop : Cop w B M g F o m) (hB : B ≤ w.heap.size) (p i s f : Int) :
    Calls Trym.prog 34 #[.map (some M), .agg #[.int .u64 p, .int .u64 i, .int .u64 s], .int .u64 f] w fun e w' =>
      e = .returned (.bool (ans (cur g (p, i)).1 (cur g (p, i)).2 s f)) ∧ (∃ F' o' m', Cop w' B M (gstep g (p, i) s f) F' o' m') ∧ Below B w w' ∧ Keep w w' := by
  obtain ⟨ao, hlk, hao⟩ : ∃ ao, (Instr.lookup 26 (.map (some M)) (.agg #[.int .u64 p, .int .u64 i]) false).run Trym.prog ((w.alloc (.cells #[.int .u64 p, .int .u64 i, .int .u64 s] 64)).alloc (.cells #[.int .u64 p, .int .u64 i] 74)) =
      .ok (.pointer ao) ((w.alloc (.cells #[.int .u64 p, .int .u64 i, .int .u64 s] 64)).alloc (.cells #[.int .u64 p, .int .u64 i] 74)) ∧
      Hid (match g (p, i) with | none => ao = none | some _ => ao = some ⟨o (p, i), 0, none⟩) := by
    have h1 := hcop.new ((Chg.alloc (fun _ => False) w (.cells #[.int .u64 p, .int .u64 i, .int .u64 s] 64)).trans (Chg.alloc (fun _ => False) _ (.cells #[.int .u64 p, .int .u64 i] 74)))
    have h2 := run_lookup_fn key74 Trym.underlying26 h1.map (zero75 _) (p, i) false
    simp only [encK, Bool.false_eq_true, if_false] at h2
    cases hg : g (p, i) with
    | none => rw [hcop.noneF _ hg] at h2; exact ⟨none, h2, rfl⟩
    | some v => rw [(hcop.someF _ v.1 v.2 hg).1] at h2; exact ⟨_, h2, rfl⟩
  have H1 : Hid (Cop w B M g F o m) := hcop
  clear hcop
  go_enter Trym.func34, Trym.ntmps34
  go_upto_if 19 with (fail)
  go_cut [8] (fun v8 wx => ∃ O g1 F1 o1 m1 fl ap, v8 = .pointer (some ⟨O, 0, none⟩) ∧ Mid w B M g (p, i) s O wx g1 F1 o1 m1 fl ap)
  case first =>
    cases ao with
    | none =>
      have hg : g (p, i) = none := by
        cases hg : g (p, i) with
        | none => rfl
        | some v => have := hao.out; rw [hg] at this; cases this
      have hcA := ((Chg.alloc (fun _ => False) w (.cells #[.int .u64 p, .int .u64 i, .int .u64 s] 64)).trans (Chg.alloc (fun _ => False) _ (.cells #[.int .u64 p, .int .u64 i] 74)))
      have hcB := (hcA.trans (Chg.alloc (fun _ => False) _ (.map #[] 0))).trans (Chg.alloc (fun _ => False) _ (.cells #[.int .u64 0, .map (some (w.heap.size + 1 + 1))] 78))
      obtain ⟨ob, hup, hfn⟩ := run_update_fn key74 Trym.underlying26 (H1.out.new hcB).map (p, i) (.pointer (some ⟨w.heap.size + 1 + 1 + 1, 0, none⟩))
      simp only [encK] at hup
      have HB : Hid (_ ∧ _ ∧ _) := ⟨hg, hcB, hfn⟩
      clear hg hcA hcB hfn
      go_wp2_with fail
      go_meet
      case rel => exact ⟨_, _, _, _, _, _, _, rfl, mid_new H1.out hB (p, i) s HB.out.1 ob HB.out.2.2⟩
    | some a =>
      obtain ⟨v, hg, rfl⟩ : ∃ v, g (p, i) = some v ∧ a = ⟨o (p, i), 0, none⟩ := by
        have := hao.out
        cases hg : g (p, i) with
        | none => rw [hg] at this; cases this
        | some v => rw [hg] at this; cases this; exact ⟨v, rfl, rfl⟩
      go_wp2_with fail
      go_meet
      case rel => exact ⟨_, _, _, _, _, _, _, rfl, mid_old H1.out hB (p, i) s hg⟩
  case rest =>
    obtain ⟨O, g1, F1, o1, m1, fl, ap, rfl, hm⟩ := hcut
    have hO := hm.hO
    subst hO
    obtain ⟨hF1, hat⟩ := hm.cop.someF _ _ _ hm.hk
    have c0 : wc.cell? ⟨o1 (p, i), 0, none⟩ = some (.int .u64 fl) := cell_of_row wc _ 0 _ _ _ hat.cells
    have c1 : wc.cell? ⟨o1 (p, i), 1, none⟩ = some (.map (some (m1 (p, i)))) := cell_of_row wc _ 1 _ _ _ hat.cells
    have f0 : wc.frozen? ⟨o1 (p, i), 0, none⟩ = false := frozen_of_row wc _ 0 _ _ hat.cells
    have Hm : Hid (Mid w B M g (p, i) s (o1 (p, i)) wc g1 F1 o1 m1 fl ap) := hm
    have Hat : Hid (OpnAt wc B M (o1 (p, i)) (m1 (p, i)) fl ap) := hat
    clear hm hat hF1 hlk
    go_upto_if 31 with (fail)
    go_cut [] (fun wx => Mid3 w B M g (p, i) s wx g1 F1 o1 m1 fl ap f)
    case first =>
      by_cases hf : fl < f
      · obtain ⟨l, clock, hl1, hl2, hl3⟩ := Hat.out.set
        have hne := Hat.out.om
        have hl1' : (wc.setCell ⟨o1 (p, i), 0, none⟩ (.int .u64 f)).heap[m1 (p, i)]? = some (.map (ents encU l) clock) := by rw [heap_setCell_other _ _ _ _ (fun e => hne e.symm)]; exact hl1
        have hrg := run_range_fn (P := Trym.prog) Trym.underlying76 hl1'
        have HL : Hid (_ ∧ _ ∧ _) := ⟨hl1', hl2, hl3⟩
        clear hl1 hl1' hl2 hl3
        go_wp2_with fail
        go_loopw [9] (fun _ wr => ∃ l' seen, Swp wc (o1 (p, i)) (m1 (p, i)) f ap clock wr l' seen) (fun _ wr => MapFns.leftOf wr (m1 (p, i)) wc.heap.size)
        case atStart => exact ⟨l, #[], swp_start HL.out.1 HL.out.2.1 HL.out.2.2⟩
        case round =>
          obtain ⟨l', seen, hS⟩ := hrel
          rcases run_next_fn (P := Trym.prog) hS.rng 0 with ⟨hu, hrun⟩ | ⟨t, w0, ht, hw0, hrun⟩
          · have hrun' : ∀ ty, (Instr.next (.pointer (some ⟨wc.heap.size, 0, none⟩)) false ty).run Trym.prog wr = .ok (.tuple #[.bool false]) wr := fun ty => hrun
            have HS : Hid (_ ∧ _) := ⟨hS, hu⟩
            clear hS hu hrun
            go_wp2_with fail
            go_meet
            case rel => exact mid3_swept hB Hm.out Hat.out hf HS.out.1 HS.out.2
          · have hR2 := hS.rng.next t.2.2 hw0
            have hS2 := hS.next ht hw0
            generalize hw6 : setO w0 wc.heap.size (.mapIter (some (m1 (p, i))) clock (seen.push t.2.2) clock) = w6 at *
            have hrun' : ∀ ty, (Instr.next (.pointer (some ⟨wc.heap.size, 0, none⟩)) false ty).run Trym.prog wr = .ok (.tuple #[.bool true, .int .u64 t.1, t.2.1]) w6 := fun ty => hrun
            have hent : (Instr.entry (.pointer (some ⟨wc.heap.size, 0, none⟩))).run Trym.prog w6 = .ok (.tuple #[.int .u64 t.1, t.2.1]) w6 := run_entry_fn (P := Trym.prog) hR2 (List.mem_filter.1 ht).1
            have c6 : w6.cell? ⟨o1 (p, i), 1, none⟩ = some (.map (some (m1 (p, i)))) := by
              rw [← c1]
              refine (World.cell?_of_block (hS2.1.block _ (by simpa using blk_lt Hat.out.cells) Hat.out.om)).trans ?_
              exact World.cell?_setCell_other _ _ _ _ (by simp)
            have HS : Hid (_ ∧ _ ∧ _ ∧ _) := ⟨hS, ht, hR2, hS2⟩
            by_cases hx : t.1 < f
            · have hdel : ∀ ty, (Builtin.delete_ #[76, 31] ty #[.map (some (m1 (p, i))), .int .u64 t.1]).run Trym.prog w6 = .ok (.tuple #[]) (setO w6 (m1 (p, i)) (.map (ents encU (MapFns.drop eqU l' t.1)) clock)) := fun ty => run_delete_fn (P := Trym.prog) key31 Trym.underlying76 hR2.map hR2.tidy t.1 31 ty
              clear hS hR2 ht hrun hw6 hw0 hS2 HL
              go_wp2_with fail
              obtain ⟨hS, ht, hR2, hS2⟩ := HS.out
              go_roundw
              case rel => exact ⟨_, _, hS2.2.2 hx⟩
              case measure => rw [(hS2.2.2 hx).rng.left, hS.rng.left]; exact Nat.lt_of_le_of_lt (unseen_drop_le _) (unseen_push ht)
            · clear hS hR2 ht hrun hw6 hw0 hS2 HL
              go_wp2_with fail
              obtain ⟨hS, ht, hR2, hS2⟩ := HS.out
              go_roundw
              case rel => exact ⟨_, _, hS2.2.1 (by omega)⟩
              case measure => rw [hR2.left, hS.rng.left]; exact unseen_push ht
      · go_wp2_with fail
        go_meet
        case rel => exact mid3_same Hm.out Hat.out (by omega)
    case rest =>
      clear c0 c1 f0 Hat
      have hk2 := gset_same g1 (p, i) (flr fl f, swp ap fl f)
      obtain ⟨hF2, hat⟩ := hcut.cop.someF _ _ _ hk2
      have c0 : wc.cell? ⟨o1 (p, i), 0, none⟩ = some (.int .u64 (flr fl f)) := cell_of_row wc _ 0 _ _ _ hat.cells
      have c1 : wc.cell? ⟨o1 (p, i), 1, none⟩ = some (.map (some (m1 (p, i)))) := cell_of_row wc _ 1 _ _ _ hat.cells
      have c2 : wc.cell? ⟨w.heap.size, 2, none⟩ = some (.int .u64 s) := cell_of_row wc _ 2 _ _ _ hcut.box
      have hlk : ∀ n, (Instr.lookup 76 (.map (some (m1 (p, i)))) (.int .u64 s) false).run Trym.prog (wc.drewN n) = .ok (.bool (swp ap fl f s)) (wc.drewN n) := by
        intro n
        have := run_lookup_fn key31 Trym.underlying76 (hat.set.congr (w' := wc.drewN n) rfl) (zero4 _) s false
        simp only [Bool.false_eq_true, if_false] at this
        rw [this]
        cases hh : swp ap fl f s <;> simp [setFn, hh]
      have HC : Hid (Mid3 w B M g (p, i) s wc g1 F1 o1 m1 fl ap f) := hcut
      have Hat : Hid (OpnAt wc B M (o1 (p, i)) (m1 (p, i)) (flr fl f) (swp ap fl f)) := hat
      clear hcut hat hF2 hk2
      by_cases hs : s < flr fl f
      · have hd : decide (s < flr fl f) = true := by simpa using hs
        clear hlk
        go_wp2_with fail
        go_quiet (fail)
        go_wp2
        go_ret
        exact fin_no hB Hm.out HC.out (by simp [ans]; intro h; omega) nq
      · have hd : decide (s < flr fl f) = false := by simpa using hs
        cases hsw : swp ap fl f s
        · rw [hsw] at hlk
          go_wp2_with fail
          go_quiet (fail)
          go_wp2_with fail
          obtain ⟨ob, hup⟩ := run_update_fn2 key31 Trym.underlying76 Hat.out.set s (.bool true)
          have hup' : (Instr.mapUpdate 76 (.map (some (m1 (p, i)))) (.int .u64 s) (.bool true)).run Trym.prog (wc.drewN (nq + 1)) = .ok () (setO (wc.drewN (nq + 1)) (m1 (p, i)) ob) := (hup (wc.drewN (nq + 1)) rfl).1
          have HU : Hid (MapFn eqU encU (setO (wc.drewN (nq + 1)) (m1 (p, i)) ob) (m1 (p, i)) _) := (hup (wc.drewN (nq + 1)) rfl).2
          clear hup hlk
          go_region
          all_goals go_wp2
          all_goals go_ret
          exact fin_yes hB Hm.out HC.out Hat.out (by omega) hsw HU.out
        · rw [hsw] at hlk
          go_wp2_with fail
          go_quiet (fail)
          go_wp2
          go_ret
          exact fin_no hB Hm.out HC.out (by simp [ans, hsw]) nq
end Go.Proofs.Qxb6603459aMods
