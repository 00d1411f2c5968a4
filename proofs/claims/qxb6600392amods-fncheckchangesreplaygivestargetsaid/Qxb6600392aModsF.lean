/- checkChanges, walked. Own work. -/
import Derived.Test.Qxb6600392aModsE
import Derived.Deep.DeepCutAuto
namespace Go.Proofs.Qxb6600392aMods
open Go.RowKit Go.MapFns
set_option linter.unusedVariables false

def addL (g : Nat → Chk) (r j : Nat) : List Chk := (List.range (j - r)).map fun i => g (r + i)
def dropL (f g : Nat → Chk) (r k : Nat) : List Chk := ((List.range k).filter fun i => !hasB g (f i) r).map f

/-- loop 1: the positions so far -/
structure P1 (w wr : World) (M k : Nat) (f : Nat → Chk) : Prop where
  map : MapFn eqC encC wr M (posF f k)
  chg : Chg (fun _ => False) w wr
  lo : w.heap.size ≤ M
theorem P1.new {w wr w2 : World} {M k : Nat} {f : Nat → Chk} (h : P1 w wr M k f) (hc : Chg (fun _ => False) wr w2) : P1 w w2 M k f := ⟨h.map.congr (hc.block _ h.map.lt (by simp)), h.chg.trans hc, h.lo⟩
theorem P1.upd {w wr : World} {M k : Nat} {f : Nat → Chk} {ob : Obj} (h : P1 w wr M k f) (hu : MapFn eqC encC (setO wr M ob) M (upd eqC (posF f k) (f k) (.int .i64 (k : Int)))) : P1 w (setO wr M ob) M (k + 1) f :=
  ⟨hu.ext fun x => posF_step f k x, h.chg.into (Chg.setO _ _ _) (fun i hi => by have := h.lo; omega), h.lo⟩

/-- loop 2: the old places so far -/
structure P2 (w wr : World) (M Rw n m j : Nat) (f g : Nat → Chk) : Prop where
  p1 : P1 w wr M n f
  row : wr.heap[Rw]? = some (.cells (arrN m fun i => .int .i64 (if i < j then oldOf f g n i else 0)) 3 (0, 0))
  lo : w.heap.size ≤ Rw
  ne : Rw ≠ M
theorem P2.new {w wr w2 : World} {M Rw n m j : Nat} {f g : Nat → Chk} (h : P2 w wr M Rw n m j f g) (hc : Chg (fun _ => False) wr w2) : P2 w w2 M Rw n m j f g := ⟨h.p1.new hc, hc.blk h.row (by simp), h.lo, h.ne⟩
theorem P2.start {w wr : World} {M n m : Nat} {f g : Nat → Chk} (h : P1 w wr M n f) : P2 w (wr.alloc (.cells (arrN m fun i => .int .i64 0) 3)) M wr.heap.size n m 0 f g := by
  refine ⟨h.new (Chg.alloc _ _ _), ?_, h.chg.size, ?_⟩
  · rw [heap_alloc_new]; simp
  · have := h.map.lt; omega
theorem P2.set {w wr : World} {M Rw n m j : Nat} {f g : Nat → Chk} {v : Int} (h : P2 w wr M Rw n m j f g) (hv : oldOf f g n j = v) : P2 w (wr.setCell ⟨Rw, j, none⟩ (.int .i64 v)) M Rw n m (j + 1) f g := by
  have hc : Chg (· = Rw) wr (wr.setCell ⟨Rw, j, none⟩ (.int .i64 v)) := Chg.setCell _ _ _ rfl
  refine ⟨⟨h.p1.map.congr (hc.block _ h.p1.map.lt (fun e => h.ne e.symm)), h.p1.chg.into hc (fun i hi => by have := h.lo; omega), h.p1.lo⟩, ?_, h.lo, h.ne⟩
  rw [heap_setCell_same wr Rw j _ 3 _ h.row]
  congr 2
  subst hv
  have e2 : (.int .i64 (oldOf f g n j) : Value) = (fun i => (.int .i64 (if i < j + 1 then oldOf f g n i else 0) : Value)) j := by simp
  rw [e2]
  exact set_arrN (g := fun i => (.int .i64 (if i < j + 1 then oldOf f g n i else 0) : Value)) fun i hi hne => by
    have : (i < j) ↔ (i < j + 1) := by omega
    simp [this]
theorem P2.room {w wr : World} {M Rw n m j : Nat} {f g : Nat → Chk} (h : P2 w wr M Rw n m j f g) (hj : j < m) : wr.cell? ⟨Rw, j, none⟩ = some (.int .i64 0) ∧ wr.frozen? ⟨Rw, j, none⟩ = false := by
  refine ⟨?_, frozen_of_row _ _ _ _ _ h.row⟩
  rw [cell_of_row _ _ _ _ _ _ h.row, get_arrN _ hj]
  simp

theorem ElemsIn.at0 {w : World} {b n : Nat} {f : Nat → Value} (h : ElemsIn w (some ⟨b, 0, none⟩) n f) (i : Nat) (hi : i < n) : w.cell? ⟨b, i, none⟩ = some (f i) := by
  obtain ⟨b', off, e, hc⟩ := h i hi
  simp at e
  obtain ⟨rfl, rfl⟩ := e
  rw [Nat.zero_add] at hc
  exact hc
theorem news_at (w : World) (c : Chk) : ∀ x u, ([.string c.1, .string c.2] : List Value)[x]? = some u → ((w.alloc (.cells #[.string c.1, .string c.2] 31)).alloc (.cells #[.string c.1, .string c.2] 31)).cell? ((⟨w.heap.size + 1, 0, none⟩ : Addr).add x) = some u := by
  intro x u hx
  have hb : ((w.alloc (.cells #[.string c.1, .string c.2] 31)).alloc (.cells #[.string c.1, .string c.2] 31)).heap[w.heap.size + 1]? = some (.cells #[.string c.1, .string c.2] 31 (0, 0)) := by
    have := heap_alloc_new (w.alloc (.cells #[.string c.1, .string c.2] 31)) (.cells #[.string c.1, .string c.2] 31)
    rw [show (w.alloc (.cells #[.string c.1, .string c.2] 31)).heap.size = w.heap.size + 1 by simp] at this
    exact this
  have e : ((⟨w.heap.size + 1, 0, none⟩ : Addr).add x) = ⟨w.heap.size + 1, x, none⟩ := by simp [Addr.add]; exact fun h => h.symm
  rw [e, cell_of_row _ _ _ _ _ _ hb]
  simpa using hx
def keptF (g : Nat → Chk) (k : Nat) : Chk → Option Value := fun c => if hasB g c k then some (.bool true) else none
theorem eqC_comm (a b : Chk) : eqC a b = eqC b a := by
  cases h : eqC b a
  · exact eqC_false fun e => by rw [eqC_true e.symm] at h; cases h
  · exact eqC_true ((eqC_iff _ _).1 h).symm
theorem keptF_step (g : Nat → Chk) (k : Nat) (c : Chk) : upd eqC (keptF g k) (g k) (.bool true) c = keptF g (k + 1) c := by
  unfold upd keptF
  rw [hasB, eqC_comm (g k) c]
  cases eqC c (g k) <;> simp
theorem rowOf_snoc (D : List Chk) (c : Chk) : rowOf (D ++ [c]) = rowOf D ++ [.string c.1, .string c.2] := by simp [rowOf]
theorem addL_out (g : Nat → Chk) (r j : Nat) (h : j < r) : addL g r (j + 1) = addL g r j := by unfold addL; rw [show j + 1 - r = 0 by omega, show j - r = 0 by omega]
theorem addL_in (g : Nat → Chk) (r j : Nat) (h : r ≤ j) : addL g r (j + 1) = addL g r j ++ [g j] := by
  unfold addL
  rw [show j + 1 - r = (j - r) + 1 by omega, List.range_succ, List.map_append]
  simp [show r + (j - r) = j by omega]
theorem len_addL (g : Nat → Chk) (r j : Nat) : (addL g r j).length = j - r := by simp [addL]

/-- loop 3: what stays is marked, what does not is added -/
structure P3 (w wr : World) (K Sx B m j r : Nat) (g : Nat → Chk) (av : Value) : Prop where
  chg : Chg (fun _ => False) w wr
  st : ElemsIn wr (some ⟨Sx, 0, none⟩) m fun i => .bool (decide (i < r))
  map : MapFn eqC encC wr K (keptF g (min j r))
  own : Own wr B av (addL g r j)
  lo : w.heap.size ≤ K ∧ w.heap.size ≤ B ∧ Sx < B ∧ K < B ∧ B ≤ wr.heap.size ∧ Sx ≠ K
theorem P3.new {w wr w2 : World} {K Sx B m j r : Nat} {g : Nat → Chk} {av : Value} (h : P3 w wr K Sx B m j r g av) (hc : Chg (fun _ => False) wr w2) : P3 w w2 K Sx B m j r g av :=
  ⟨h.chg.trans hc, h.st.chg hc (by simp), h.map.congr (hc.block _ h.map.lt (by simp)), h.own.chg hc (by simp), h.lo.1, h.lo.2.1, h.lo.2.2.1, h.lo.2.2.2.1, Nat.le_trans h.lo.2.2.2.2.1 hc.size, h.lo.2.2.2.2.2⟩
theorem P3.mark {w wr : World} {K Sx B m j r : Nat} {g : Nat → Chk} {av : Value} {ob : Obj} (h : P3 w wr K Sx B m j r g av) (hj : j < r) (hu : MapFn eqC encC (setO wr K ob) K (upd eqC (keptF g j) (g j) (.bool true))) : P3 w (setO wr K ob) K Sx B m (j + 1) r g av := by
  obtain ⟨l1, l2, l3, l4, l5, l6⟩ := h.lo
  have hc : Chg (· = K) wr (setO wr K ob) := Chg.setO _ _ _
  refine ⟨h.chg.into hc (fun i hi => by omega), h.st.chg hc (fun b off e => by simp at e; omega), ?_, ?_, l1, l2, l3, l4, by rw [setO_size]; exact l5, l6⟩
  · rw [show min (j + 1) r = j + 1 by omega]
    exact hu.ext fun x => keptF_step g j x
  · rw [addL_out g r j hj]
    refine h.own.chg hc ?_
    intro k hk e
    rcases h.own.2 with ⟨h0, _⟩ | ⟨q, cap, cur, h0, hb, _⟩
    · rw [h0] at hk; cases hk
    · rw [h0] at hk; simp [Value.ownBlock] at hk; omega
theorem P3.add {w wr w3 : World} {K Sx B m j r : Nat} {g : Nat → Chk} {av av' : Value} (h : P3 w wr K Sx B m j r g av) (hj : r ≤ j) (ho : w3.ownsRow B 31 2 av' ((addL g r j).length + 1) (rowOf (addL g r j) ++ [.string (g j).1, .string (g j).2])) (hg : wr.grownBy w3 av.ownBlock) : P3 w w3 K Sx B m (j + 1) r g av' := by
  obtain ⟨l1, l2, l3, l4, l5, l6⟩ := h.lo
  have hlo : ∀ k, av.ownBlock = some k → B ≤ k := by
    intro k hk
    rcases h.own.2 with ⟨h0, _⟩ | ⟨q, cap, cur, h0, hb, _⟩
    · rw [h0] at hk; cases hk
    · rw [h0] at hk; simp [Value.ownBlock] at hk; omega
  have hc : Chg (fun i => av.ownBlock = some i) wr w3 := ⟨hg.os, hg.tape, hg.output, hg.size, fun k hk hn => hg.block k hk (fun e => hn e.symm)⟩
  refine ⟨h.chg.into hc (fun i hi => by have := hlo i hi; omega), h.st.chg hc (fun b off e hs => by simp at e; have := hlo b hs; omega), ?_, ?_, l1, l2, l3, l4, Nat.le_trans l5 hg.size, l6⟩
  · rw [show min (j + 1) r = min j r by omega]
    exact h.map.congr (hc.block _ h.map.lt (fun hs => by have := hlo K hs; omega))
  · rw [addL_in g r j hj]
    unfold Own
    rw [rowOf_snoc, List.length_append]
    exact ho

theorem dropL_out (f g : Nat → Chk) (r k : Nat) (h : hasB g (f k) r = true) : dropL f g r (k + 1) = dropL f g r k := by
  unfold dropL
  rw [List.range_succ, List.filter_append]
  simp [h]
theorem dropL_in (f g : Nat → Chk) (r k : Nat) (h : hasB g (f k) r = false) : dropL f g r (k + 1) = dropL f g r k ++ [f k] := by
  unfold dropL
  rw [List.range_succ, List.filter_append]
  simp [h]
theorem len_dropL (f g : Nat → Chk) (r k : Nat) : (dropL f g r k).length ≤ k := by
  unfold dropL
  rw [List.length_map]
  have := List.length_filter_le (fun i => !hasB g (f i) r) (List.range k)
  simpa using this

/-- loop 4: what is not marked is dropped -/
structure P4 (w wr : World) (K B m k r : Nat) (f g : Nat → Chk) (dv av : Value) : Prop where
  chg : Chg (fun _ => False) w wr
  map : MapFn eqC encC wr K (keptF g r)
  ownD : Own wr B dv (dropL f g r k)
  ownA : Own wr B av (addL g r m)
  apart : ∀ q, dv.ownBlock = some q → av.ownBlock ≠ some q
  lo : w.heap.size ≤ K ∧ w.heap.size ≤ B ∧ K < B ∧ B ≤ wr.heap.size
theorem P4.new {w wr w2 : World} {K B m k r : Nat} {f g : Nat → Chk} {dv av : Value} (h : P4 w wr K B m k r f g dv av) (hc : Chg (fun _ => False) wr w2) : P4 w w2 K B m k r f g dv av :=
  ⟨h.chg.trans hc, h.map.congr (hc.block _ h.map.lt (by simp)), h.ownD.chg hc (by simp), h.ownA.chg hc (by simp), h.apart, h.lo.1, h.lo.2.1, h.lo.2.2.1, Nat.le_trans h.lo.2.2.2 hc.size⟩
theorem Own.lt {w : World} {B : Nat} {v : Value} {D : List Chk} (h : Own w B v D) : ∀ k, v.ownBlock = some k → B ≤ k ∧ k < w.heap.size := by
  intro k hk
  rcases h.2 with ⟨h0, _⟩ | ⟨q, cap, cur, h0, hb, hg, _⟩
  · rw [h0] at hk; cases hk
  · rw [h0] at hk; simp [Value.ownBlock] at hk; subst hk; exact ⟨hb, blk_lt hg⟩
theorem P4.skip {w wr : World} {K B m k r : Nat} {f g : Nat → Chk} {dv av : Value} (h : P4 w wr K B m k r f g dv av) (hh : hasB g (f k) r = true) : P4 w wr K B m (k + 1) r f g dv av :=
  ⟨h.chg, h.map, by rw [dropL_out f g r k hh]; exact h.ownD, h.ownA, h.apart, h.lo⟩
theorem P4.add {w wr w3 : World} {K B m k r q cq : Nat} {f g : Nat → Chk} {dv av : Value} (h : P4 w wr K B m k r f g dv av) (hh : hasB g (f k) r = false) (ho : w3.ownsRow B 31 2 (.slice (some ⟨q, 0, none⟩) ((dropL f g r k).length + 1) cq) ((dropL f g r k).length + 1) (rowOf (dropL f g r k) ++ [.string (f k).1, .string (f k).2])) (hg : wr.grownBy w3 dv.ownBlock) (hat : dv.ownBlock = some q ∨ q = wr.heap.size) : P4 w w3 K B m (k + 1) r f g (.slice (some ⟨q, 0, none⟩) ((dropL f g r k).length + 1) cq) av := by
  obtain ⟨l1, l2, l3, l4⟩ := h.lo
  have hlo := h.ownD.lt
  have hloA := h.ownA.lt
  have hc : Chg (fun i => dv.ownBlock = some i) wr w3 := ⟨hg.os, hg.tape, hg.output, hg.size, fun k hk hn => hg.block k hk (fun e => hn e.symm)⟩
  refine ⟨h.chg.into hc (fun i hi => by have := (hlo i hi).1; omega), h.map.congr (hc.block _ h.map.lt (fun hs => by have := (hlo K hs).1; omega)), ?_, h.ownA.chg hc (fun q hq hs => h.apart q hs hq), ?_, l1, l2, l3, Nat.le_trans l4 hg.size⟩
  · rw [dropL_in f g r k hh]
    unfold Own
    rw [rowOf_snoc, List.length_append]
    exact ho
  · intro q' hq' hav
    simp [Value.ownBlock] at hq'
    subst hq'
    rcases hat with hd | hd
    · exact h.apart _ hd hav
    · have := (hloA _ hav).2
      omega

attribute [local go_sem] run_makeMap_fn
set_option maxHeartbeats 4000000 in
set_option maxRecDepth 100000 in
theorem change34 (ao bo : Option Addr) (n c m d : Nat) (f g : Nat → Chk) (w : World) (hn : n ≤ 4096) (hm : m ≤ 4096) (h1 : ChksIn w ao n f) (h2 : ChksIn w bo m g) :
    Calls Trym.prog 34 #[.slice ao n c, .slice bo m d] w fun e w' => ∃ dv av B, e = .returned (.tuple #[dv, av]) ∧ Chg (fun _ => False) w w' ∧ Own w' B dv (dropL f g (runLen (oldOf f g n) m) n) ∧ Own w' B av (addL g (runLen (oldOf f g n) m) m) := by
  have HI : Hid (ChksIn w ao n f ∧ ChksIn w bo m g) := ⟨h1, h2⟩
  clear h1 h2
  have hmk := run_makeMap_hint n w
  have H0 : Hid (P1 w (w.alloc (.map #[] 0)) w.heap.size 0 f) := ⟨(MapFn.made w).ext fun x => by simp [posF, idx], Chg.alloc _ _ _, Nat.le_refl _⟩
  go_enter Trym.func34, Trym.ntmps34
  go_wp2_with fail
  clear hmk
  generalize w.alloc (.map #[] 0) = w0 at *
  generalize w.heap.size = M at *
  go_loopw [25] (fun i wr => ∃ k : Nat, k ≤ n ∧ i = .int .i64 k ∧ P1 w wr M k f) (fun i _ => n - (intOf i).toNat)
  case atStart => exact ⟨0, Nat.zero_le _, rfl, H0.out⟩
  case round =>
    obtain ⟨k, hk, rfl, hP⟩ := hrel
    have HP : Hid (P1 w wr M k f) := hP
    clear hP H0
    by_cases hlt : k < n
    · obtain ⟨b, off, rfl, c0, c1⟩ := HI.out.1 k hlt
      have d0 := HP.out.chg.cell c0 (by simp)
      have d1 := HP.out.chg.cell c1 (by simp)
      have kn : (k : Int) < (n : Int) := by omega
      clear c0 c1
      go_wp2_with (guard_target =~ wpList _ _ _ (⟨none, Op.store 31 _ _, _, _, _, _⟩ :: _) _ _; refine wpList_store_fresh (by rfl) 31 _ _ (by rfl) [_, _] (by rfl) (by rfl) _ 31 (by rfl) (by kernel_rfl) (by rfl) ?_; intro w2 hc2 hs2 hb2; have g0 : w2.cell? ⟨wr.heap.size, 0, none⟩ = some (.string (f k).1) := cell_of_row w2 _ 0 _ _ _ hb2; have g1 : w2.cell? ⟨wr.heap.size, 1, none⟩ = some (.string (f k).2) := cell_of_row w2 _ 1 _ _ _ hb2; have HQ : Hid (P1 w w2 M k f) := HP.out.new hc2; obtain ⟨ob, hup⟩ := run_update_fn key31 Trym.underlying80 HQ.out.map (f k) (.int .i64 (k : Int)); have U : (Instr.mapUpdate 80 (.map (some M)) (.agg #[.string (f k).1, .string (f k).2]) (.int .i64 (k : Int))).run Trym.prog w2 = .ok () (setO w2 M ob) := hup.1; have HU : Hid (P1 w (setO w2 M ob) M (k + 1) f) := HQ.out.upd hup.2; clear hup hc2 hs2 hb2)
      go_roundw
      case rel => exact ⟨k + 1, by omega, by go_num, HU.out⟩
      case measure => simp [intOf]; omega
    · obtain rfl : n = k := by omega
      have hmk := mk81 wr m hm
      have H1 : Hid (P2 w (wr.alloc (.cells (arrN m fun i => .int .i64 0) 3)) M wr.heap.size n m 0 f g) := P2.start HP.out
      clear HP
      go_wp2_with fail
      clear hmk
      generalize wr.alloc (.cells (arrN m fun i => .int .i64 0) 3) = w1 at *
      generalize wr.heap.size = Rw at *
      clear wr
      go_loopw [39] (fun i wr => ∃ j : Nat, j ≤ m ∧ i = .int .i64 j ∧ P2 w wr M Rw n m j f g) (fun i _ => m - (intOf i).toNat)
      case atStart => exact ⟨0, Nat.zero_le _, rfl, H1.out⟩
      case round =>
        obtain ⟨j, hj, rfl, hP⟩ := hrel
        have HP : Hid (P2 w wr M Rw n m j f g) := hP
        clear hP H1
        by_cases hlt : j < m
        · obtain ⟨b, off, rfl, c0, c1⟩ := HI.out.2 j hlt
          have d0 := HP.out.p1.chg.cell c0 (by simp)
          have d1 := HP.out.p1.chg.cell c1 (by simp)
          have kn : (j : Int) < (m : Int) := by omega
          clear c0 c1
          cases hidx : idx f n (g j) with
          | none =>
            have HV : Hid (oldOf f g n j = -1) := by unfold Hid oldOf; rw [hidx]
            have HQ : Hid (P2 w (wr.alloc (.cells #[.string (g j).1, .string (g j).2] 31)) M Rw n m j f g) := HP.out.new (Chg.alloc _ _ _)
            have r0 := (HQ.out.room hlt).1
            have r1 := (HQ.out.room hlt).2
            have r2 := (HP.out.room hlt).1
            have r3 := (HP.out.room hlt).2
            have hRne : ¬ Rw = wr.heap.size := by have := blk_lt HP.out.row; omega
            have U : (Instr.lookup 80 (.map (some M)) (.agg #[.string (g j).1, .string (g j).2]) true).run Trym.prog (wr.alloc (.cells #[.string (g j).1, .string (g j).2] 31)) = .ok (.tuple #[.int .i64 0, .bool false]) (wr.alloc (.cells #[.string (g j).1, .string (g j).2] 31)) := by
              have := run_lookup_fn key31 Trym.underlying80 HQ.out.p1.map (zero3 _) (g j) true
              rw [if_pos rfl] at this
              refine this.trans ?_
              unfold posF
              rw [hidx]
              rfl
            go_wp2_with fail
            go_roundw
            case rel => exact ⟨j + 1, by omega, by go_num, HQ.out.set HV.out⟩
            case measure => simp [intOf]; omega
          | some p =>
            have HV : Hid (oldOf f g n j = (p : Int)) := by unfold Hid oldOf; rw [hidx]
            have HQ : Hid (P2 w (wr.alloc (.cells #[.string (g j).1, .string (g j).2] 31)) M Rw n m j f g) := HP.out.new (Chg.alloc _ _ _)
            have r0 := (HQ.out.room hlt).1
            have r1 := (HQ.out.room hlt).2
            have r2 := (HP.out.room hlt).1
            have r3 := (HP.out.room hlt).2
            have hRne : ¬ Rw = wr.heap.size := by have := blk_lt HP.out.row; omega
            have U : (Instr.lookup 80 (.map (some M)) (.agg #[.string (g j).1, .string (g j).2]) true).run Trym.prog (wr.alloc (.cells #[.string (g j).1, .string (g j).2] 31)) = .ok (.tuple #[.int .i64 (p : Int), .bool true]) (wr.alloc (.cells #[.string (g j).1, .string (g j).2] 31)) := by
              have := run_lookup_fn key31 Trym.underlying80 HQ.out.p1.map (zero3 _) (g j) true
              rw [if_pos rfl] at this
              refine this.trans ?_
              unfold posF
              rw [hidx]
              rfl
            go_wp2_with fail
            go_roundw
            case rel => exact ⟨j + 1, by omega, by go_num, HQ.out.set HV.out⟩
            case measure => simp [intOf]; omega
        · obtain rfl : m = j := by omega
          have hmk := mk81 wr m hm
          have HZ : Hid (Chg (fun _ => False) w (wr.alloc (.cells (arrN m fun i => .int .i64 0) 3)) ∧ ElemsIn (wr.alloc (.cells (arrN m fun i => .int .i64 0) 3)) (some ⟨Rw, 0, none⟩) m (fun i => .int .i64 (oldOf f g n i)) ∧ ElemsIn (wr.alloc (.cells (arrN m fun i => .int .i64 0) 3)) (some ⟨wr.heap.size, 0, none⟩) m fun _ => .int .i64 0) := by
            refine ⟨HP.out.p1.chg.trans (Chg.alloc _ _ _), fun i hi => ⟨_, 0, rfl, ?_⟩, fun i hi => ⟨_, 0, rfl, ?_⟩⟩
            · rw [Nat.zero_add, cell_of_row _ _ _ _ _ _ ((Chg.alloc (fun _ => False) wr _).blk HP.out.row (by simp)), get_arrN _ hi]
              simp [hi]
            · rw [Nat.zero_add, cell_of_row _ _ _ _ _ _ (heap_alloc_new _ _), get_arrN _ hi]
          clear HP
          go_wp2_with fail
          clear hmk
          generalize wr.alloc (.cells (arrN m fun i => .int .i64 0) 3) = w2 at *
          generalize wr.heap.size = Rz at *
          clear wr
          refine (stay41 (some ⟨Rw, 0, none⟩) (some ⟨Rz, 0, none⟩) m m m (oldOf f g n) w2 hm HZ.out.2.1 HZ.out.2.2).mono ?_
          rintro e w3 ⟨rfl, hc3, hst3, hlt3⟩
          have HR : Hid (runLen (oldOf f g n) m ≤ m) := runLen_le _ _
          generalize hr : runLen (oldOf f g n) m = r at *
          have HRr : Hid (runLen (oldOf f g n) m = r) := hr
          clear hr
          have H3 : Hid (P3 w (w3.alloc (.map #[] 0)) w3.heap.size w2.heap.size (w3.heap.size + 1) m 0 r g (.slice none 0 0)) := by
            have hsz2 := HZ.out.1.size
            refine ⟨(HZ.out.1.trans hc3).trans (Chg.alloc _ _ _), hst3.chg (Chg.alloc (fun _ => False) _ _) (by simp), (MapFn.made w3).ext fun x => by simp [keptF, hasB], ?_, by omega, by omega, by omega, by omega, by simp, by omega⟩
            rw [show addL g r 0 = [] by simp [addL]]
            exact Own.nil _ _
          clear hc3 hst3 HZ hlt3
          go_wp2_with fail
          generalize w3.alloc (.map #[] 0) = w4 at *
          generalize w3.heap.size + 1 = B at *
          generalize w3.heap.size = K at *
          generalize w2.heap.size = Sx at *
          clear w3 w2
          obtain ⟨i0, hi, hz0, hz1, hz2⟩ := info_parts Trym.info31
          go_loopw [67, 5] (fun i av wr => ∃ j : Nat, j ≤ m ∧ i = .int .i64 j ∧ P3 w wr K Sx B m j r g av) (fun i _ _ => m - (intOf i).toNat)
          case atStart => exact ⟨0, Nat.zero_le _, rfl, H3.out⟩
          case round =>
            obtain ⟨j, hj, rfl, hP⟩ := hrel
            have HP : Hid (P3 w wr K Sx B m j r g _) := hP
            clear hP H3
            by_cases hlt : j < m
            · obtain ⟨b, off, rfl, c0, c1⟩ := HI.out.2 j hlt
              have d0 := HP.out.chg.cell c0 (by simp)
              have d1 := HP.out.chg.cell c1 (by simp)
              have kn : (j : Int) < (m : Int) := by omega
              clear c0 c1
              have HQ : Hid (P3 w (wr.alloc (.cells #[.string (g j).1, .string (g j).2] 31)) K Sx B m j r g u5) := HP.out.new (Chg.alloc _ _ _)
              have s0 : wr.cell? ⟨Sx, j, none⟩ = some (.bool (decide (j < r))) := HP.out.st.at0 j hlt
              have s1 : (wr.alloc (.cells #[.string (g j).1, .string (g j).2] 31)).cell? ⟨Sx, j, none⟩ = some (.bool (decide (j < r))) := HQ.out.st.at0 j hlt
              by_cases hjr : j < r
              · have z : decide (j < r) = true := decide_eq_true hjr
                rw [z] at s0 s1
                have hmin : min j r = j := by omega
                have hmp := HQ.out.map
                rw [hmin] at hmp
                obtain ⟨ob, hup⟩ := run_update_fn key31 Trym.underlying85 hmp (g j) (.bool true)
                have U : (Instr.mapUpdate 85 (.map (some K)) (.agg #[.string (g j).1, .string (g j).2]) (.bool true)).run Trym.prog (wr.alloc (.cells #[.string (g j).1, .string (g j).2] 31)) = .ok () (setO (wr.alloc (.cells #[.string (g j).1, .string (g j).2] 31)) K ob) := hup.1
                have HU := HQ.out.mark hjr hup.2
                have HV : Hid (P3 w (setO (wr.alloc (.cells #[.string (g j).1, .string (g j).2] 31)) K ob) K Sx B m (j + 1) r g u5) := HU
                clear hmp hup HU hmin
                go_wp2_with fail
                go_roundw
                case rel => exact ⟨j + 1, by omega, by go_num, HV.out⟩
                case measure => simp [intOf]; omega
              · have z : decide (j < r) = false := decide_eq_false hjr
                rw [z] at s0 s1
                have HB : Hid (P3 w ((wr.alloc (.cells #[.string (g j).1, .string (g j).2] 31)).alloc (.cells #[.string (g j).1, .string (g j).2] 31)) K Sx B m j r g u5) := HQ.out.new (Chg.alloc _ _ _)
                have HN : Hid (∀ x u, ([.string (g j).1, .string (g j).2] : List Value)[x]? = some u → ((wr.alloc (.cells #[.string (g j).1, .string (g j).2] 31)).alloc (.cells #[.string (g j).1, .string (g j).2] 31)).cell? ((⟨wr.heap.size + 1, 0, none⟩ : Addr).add x) = some u) := news_at _ _
                have hlo := HB.out.lo.2.2.2.2.1
                have hal := len_addL g r j
                have HH : Hid (B ≤ ((wr.alloc (.cells #[.string (g j).1, .string (g j).2] 31)).alloc (.cells #[.string (g j).1, .string (g j).2] 31)).heap.size ∧ (addL g r j).length = j - r) := ⟨hlo, hal⟩
                clear hlo hal
                go_wp2_with (guard_target =~ wpList _ _ _ (⟨_, Op.call ⟨Callee.builtin Builtin.append, _, _⟩, _, _, _, _⟩ :: _) _ _; refine wpList_append_lies _ (by rfl) _ _ 25 (by rfl) B 31 i0 _ 2 32 Trym.underlying25 hi hz0 hz1 hz2 (by rfl) (by decide) u5 (addL g r j).length (rowOf (addL g r j)) (by rfl) HB.out.own ⟨wr.heap.size + 1, 0, none⟩ 1 1 [.string (g j).1, .string (g j).2] (by rfl) (by rfl) HN.out (by simp; exact ⟨rfl, rfl⟩) (by decide) (by unfold maxLen; have := HH.out.2; omega) (by have := HH.out.2; omega) HH.out.1 (wr.heap.size + 1 + 1) (by simp) ?_; intro q cq w3 hown3 hgr3 hat3 hlt3; have HC : Hid (P3 w w3 K Sx B m (j + 1) r g (.slice (some ⟨q, 0, none⟩) ((addL g r j).length + 1) cq)) := HB.out.add (by omega) hown3 hgr3; clear hown3 hgr3 hat3 hlt3)
                go_roundw
                case rel => exact ⟨j + 1, by omega, by go_num, HC.out⟩
                case measure => simp [intOf]; omega
            · obtain rfl : m = j := by omega
              have H4 : Hid (P4 w wr K B m 0 r f g (.slice none 0 0) u5) := by
                have hmp := HP.out.map
                rw [show min m r = r by have := HR.out; omega] at hmp
                exact ⟨HP.out.chg, hmp, by rw [show dropL f g r 0 = [] from rfl]; exact Own.nil _ _, HP.out.own, fun q hq => (by cases hq), HP.out.lo.1, HP.out.lo.2.1, HP.out.lo.2.2.2.1, HP.out.lo.2.2.2.2.1⟩
              clear HP
              go_wp2_with fail
              go_loopw [85, 4] (fun i dv wr => ∃ k : Nat, k ≤ n ∧ i = .int .i64 k ∧ P4 w wr K B m k r f g dv u5) (fun i _ _ => n - (intOf i).toNat)
              case atStart => exact ⟨0, Nat.zero_le _, rfl, H4.out⟩
              case round =>
                obtain ⟨k, hk, rfl, hP⟩ := hrel
                have HP : Hid (P4 w wr K B m k r f g _ _) := hP
                clear hP H4
                by_cases hlt : k < n
                · obtain ⟨b, off, rfl, c0, c1⟩ := HI.out.1 k hlt
                  have d0 := HP.out.chg.cell c0 (by simp)
                  have d1 := HP.out.chg.cell c1 (by simp)
                  have kn : (k : Int) < (n : Int) := by omega
                  clear c0 c1
                  have HQ : Hid (P4 w (wr.alloc (.cells #[.string (f k).1, .string (f k).2] 31)) K B m k r f g u4 u5) := HP.out.new (Chg.alloc _ _ _)
                  have U : (Instr.lookup 85 (.map (some K)) (.agg #[.string (f k).1, .string (f k).2]) false).run Trym.prog (wr.alloc (.cells #[.string (f k).1, .string (f k).2] 31)) = .ok (.bool (hasB g (f k) r)) (wr.alloc (.cells #[.string (f k).1, .string (f k).2] 31)) := by
                    have := run_lookup_fn key31 Trym.underlying85 HQ.out.map (zero4 _) (f k) false
                    rw [if_neg (by simp)] at this
                    refine this.trans ?_
                    unfold keptF
                    cases hasB g (f k) r <;> simp
                  cases hh : hasB g (f k) r
                  · rw [hh] at U
                    have HB : Hid (P4 w ((wr.alloc (.cells #[.string (f k).1, .string (f k).2] 31)).alloc (.cells #[.string (f k).1, .string (f k).2] 31)) K B m k r f g u4 u5) := HQ.out.new (Chg.alloc _ _ _)
                    have HN : Hid (∀ x u, ([.string (f k).1, .string (f k).2] : List Value)[x]? = some u → ((wr.alloc (.cells #[.string (f k).1, .string (f k).2] 31)).alloc (.cells #[.string (f k).1, .string (f k).2] 31)).cell? ((⟨wr.heap.size + 1, 0, none⟩ : Addr).add x) = some u) := news_at _ _
                    have hlo := HB.out.lo.2.2.2
                    have hal := len_dropL f g r k
                    have HH : Hid (B ≤ ((wr.alloc (.cells #[.string (f k).1, .string (f k).2] 31)).alloc (.cells #[.string (f k).1, .string (f k).2] 31)).heap.size ∧ (dropL f g r k).length ≤ k ∧ hasB g (f k) r = false ∧ ((wr.alloc (.cells #[.string (f k).1, .string (f k).2] 31)).alloc (.cells #[.string (f k).1, .string (f k).2] 31)).heap.size = wr.heap.size + 1 + 1) := ⟨hlo, hal, hh, by simp⟩
                    clear hlo hal hh
                    go_wp2_with (guard_target =~ wpList _ _ _ (⟨_, Op.call ⟨Callee.builtin Builtin.append, _, _⟩, _, _, _, _⟩ :: _) _ _; refine wpList_append_lies _ (by rfl) _ _ 25 (by rfl) B 31 i0 _ 2 32 Trym.underlying25 hi hz0 hz1 hz2 (by rfl) (by decide) u4 (dropL f g r k).length (rowOf (dropL f g r k)) (by rfl) HB.out.ownD ⟨wr.heap.size + 1, 0, none⟩ 1 1 [.string (f k).1, .string (f k).2] (by rfl) (by rfl) HN.out (by simp; exact ⟨rfl, rfl⟩) (by decide) (by unfold maxLen; have := HH.out.2.1; omega) (by have := HH.out.2.1; omega) HH.out.1 (wr.heap.size + 1 + 1) (by simp) ?_; intro q cq w3 hown3 hgr3 hat3 hlt3; have HC : Hid (P4 w w3 K B m (k + 1) r f g (.slice (some ⟨q, 0, none⟩) ((dropL f g r k).length + 1) cq) u5) := HB.out.add HH.out.2.2.1 hown3 hgr3 (by rw [HH.out.2.2.2]; exact hat3); clear hown3 hgr3 hat3 hlt3)
                    go_roundw
                    case rel => exact ⟨k + 1, by omega, by go_num, HC.out⟩
                    case measure => simp [intOf]; omega
                  · rw [hh] at U
                    have HV : Hid (P4 w (wr.alloc (.cells #[.string (f k).1, .string (f k).2] 31)) K B m (k + 1) r f g u4 u5) := HQ.out.skip hh
                    clear hh
                    go_wp2_with fail
                    go_roundw
                    case rel => exact ⟨k + 1, by omega, by go_num, HV.out⟩
                    case measure => simp [intOf]; omega
                · obtain rfl : n = k := by omega
                  go_wp2_with fail
                  go_ret2
                  refine ⟨_, _, B, rfl, HP.out.chg, ?_, ?_⟩
                  · rw [HRr.out]; exact HP.out.ownD
                  · rw [HRr.out]; exact HP.out.ownA
end Go.Proofs.Qxb6600392aMods
