import Derived.Test.Qxb6603459aModsPlaceA
import Derived.Deep.RegionLaw
namespace Go.Proofs.Qxb6603459aMods
open Go.RowKit Go.MapFns
set_option linter.unusedVariables false
theorem mk37z (w : World) (c : Nat) (hc : c ≤ 1048576) : (Instr.makeSlice 37 (.int .i64 0) (.int .i64 c)).run Trym.prog w = .ok (.slice (some ⟨w.heap.size, 0, none⟩) 0 c) (w.alloc (.cells (Array.replicate c (.int .u8 0)) 5)) :=
  mk37 w 0 c (Nat.zero_le _) hc
attribute [local go_sem] mk37z
theorem addA_zero {w : World} {B R : Nat} {F : Fl} {L : List Ck} (h : RecRep w B R F L) (sz n : Nat) : AddA (w.drewN n) B R F L (fun _ => 0) 0 sz ((w.drewN n).alloc (.cells (Array.replicate sz (.int .u8 0)) 5)) :=
  ⟨h.chg ⟨rfl, rfl, rfl, Nat.le_refl _, fun _ _ _ => rfl⟩, Chg.alloc _ _ _, by simp, _, heap_alloc_new _ _, by simp, fun i h => by omega⟩

theorem minmax (room : Int) (dn sz : Nat) (h : (sz : Int) = max (min 65536 room) dn) : ∃ mn : Int, (∀ ts t (W : World), (Builtin.min_ ts t #[.int .i64 65536, .int .i64 room]).run Trym.prog W = .ok (.int .i64 mn) W) ∧
    (∀ ts t (W : World), (Builtin.max_ ts t #[.int .i64 mn, .int .i64 dn]).run Trym.prog W = .ok (.int .i64 sz) W) := by
  refine ⟨min 65536 room, fun ts t W => ?_, fun ts t W => ?_⟩
  · rw [run_min_int2]
    congr 2
    omega
  · rw [run_max_int2, h]
    congr 2
    omega

/-- a new chunk stands at the end, still empty -/
structure PlB (w : World) (B R : Nat) (F : Fl) (L : List Ck) (at_ : Int) (sz : Nat) (wx : World) (F' : Fl) (blk : Nat) : Prop where
  rep : RecRep wx B R F' (L ++ [⟨at_, fun _ => 0, 0, sz, blk⟩])
  bel : Below B w wx
  flds : F' = { F with cv := F'.cv, chunked := wrap64 (F.chunked + sz), next := at_, fresh := false }

theorem rep_drewN {w : World} {B R : Nat} {F : Fl} {L : List Ck} (h : RecRep w B R F L) (n : Nat) : RecRep (w.drewN n) B R F L := h.chg ⟨rfl, rfl, rfl, Nat.le_refl _, fun _ _ _ => rfl⟩
theorem below_drewN (B : Nat) (w : World) (n : Nat) : Below B w (w.drewN n) := ⟨rfl, rfl, rfl, Nat.le_refl _, fun _ _ => rfl⟩
theorem addA_zero' {w : World} {B R : Nat} {F : Fl} {L : List Ck} (h : RecRep w B R F L) (sz : Nat) : AddA w.drew B R F L (fun _ => 0) 0 sz (w.drew.alloc (.cells (Array.replicate sz (.int .u8 0)) 5)) :=
  ⟨h.chg (Chg.drew _ w), Chg.alloc _ _ _, by simp, _, heap_alloc_new _ _, by simp, fun i h => by omega⟩

/-- a field of r is written -/
theorem RecRep.setF {w : World} {B R : Nat} {F F' : Fl} {L : List Ck} (h : RecRep w B R F L) (hB : B ≤ w.heap.size) (j : Nat) (v : Value) (hF : (recArr F).setIfInBounds j v = recArr F') (hcv : F'.cv = F.cv) :
    RecRep (w.setCell ⟨R, j, none⟩ v) B R F' L ∧ Below B w (w.setCell ⟨R, j, none⟩ v) := by
  have hc : Chg (· = R) w (w.setCell ⟨R, j, none⟩ v) := Chg.setCell _ _ _ rfl
  refine ⟨⟨h.base, by rw [← hF]; exact heap_setCell_same w R j _ 70 v h.fields, ?_, ?_, h.nodup⟩, hc.below hB (fun i hi => by have := h.base; omega)⟩
  · rw [hcv]
    refine owns_chg h.row hc ?_
    intro k hk e
    obtain ⟨c, hc'⟩ := owns_blk h.row hk
    rw [e, h.fields] at hc'
    simp at hc'
  · intro c hcm
    obtain ⟨b1, b2⟩ := h.bufs c hcm
    refine ⟨b1, b2.chg hc ?_⟩
    intro e
    obtain ⟨a, ha, _⟩ := b2
    rw [e, h.fields] at ha
    simp at ha

theorem plB_fin {w wq w3 : World} {B R : Nat} {F : Fl} {L : List Ck} {sz : Nat} {o : Obj} {at_ : Int} {g cq : Nat} (hB : B ≤ w.heap.size) (hbq : Below B w wq) (hA : AddA wq.drew B R F L (fun _ => 0) 0 sz (wq.drew.alloc (.cells (Array.replicate sz (.int .u8 0)) 5)))
    (hown : w3.ownsRow B 72 2 (.slice (some ⟨g, 0, none⟩) (L.length + 1) cq) (L.length + 1) (ckAll L ++ [.int .i64 at_, .slice (some ⟨wq.heap.size, 0, none⟩) 0 sz])) (hg : ((wq.drew.alloc (.cells (Array.replicate sz (.int .u8 0)) 5)).alloc o).grownBy w3 F.cv.ownBlock) :
    PlB w B R F L at_ sz ((((w3.setCell ⟨R, 5, none⟩ (.slice (some ⟨g, 0, none⟩) (L.length + 1) cq)).setCell ⟨R, 6, none⟩ (.int .i64 (wrap64 (F.chunked + sz)))).setCell ⟨R, 7, none⟩ (.int .i64 at_)).setCell ⟨R, 8, none⟩ (.bool false))
      { F with cv := .slice (some ⟨g, 0, none⟩) (L.length + 1) cq, chunked := wrap64 (F.chunked + sz), next := at_, fresh := false } wq.heap.size := by
  have hBq : B ≤ wq.drew.heap.size := Nat.le_trans hB hbq.size
  obtain ⟨r1, b1⟩ := hA.fin hBq (Nat.zero_le _) hown hg
  have s1 := Nat.le_trans hBq b1.size
  obtain ⟨r2, b2⟩ := r1.setF s1 6 (.int .i64 (wrap64 (F.chunked + sz))) (F' := { F with cv := .slice (some ⟨g, 0, none⟩) (L.length + 1) cq, chunked := wrap64 (F.chunked + sz) }) rfl rfl
  have s2 := Nat.le_trans s1 b2.size
  obtain ⟨r3, b3⟩ := r2.setF s2 7 (.int .i64 at_) (F' := { F with cv := .slice (some ⟨g, 0, none⟩) (L.length + 1) cq, chunked := wrap64 (F.chunked + sz), next := at_ }) rfl rfl
  have s3 := Nat.le_trans s2 b3.size
  obtain ⟨r4, b4⟩ := r3.setF s3 8 (.bool false) (F' := { F with cv := .slice (some ⟨g, 0, none⟩) (L.length + 1) cq, chunked := wrap64 (F.chunked + sz), next := at_, fresh := false }) rfl rfl
  have bq : Below B w wq.drew := hbq.drew
  exact ⟨r4, (((bq.trans b1).trans b2).trans b3).trans b4, rfl⟩

theorem ElemsIn.bel {w w' : World} {ao : Option Addr} {n B : Nat} {f : Nat → Value} (h : ElemsIn w ao n f) (hb : Below B w w') (hs : ∀ b off, ao = some ⟨b, off, none⟩ → b < B) : ElemsIn w' ao n f := by
  intro i hi
  obtain ⟨b, off, e, hcell⟩ := h i hi
  exact ⟨b, off, e, by rw [hb.cell (hs b off e)]; exact hcell⟩

/-- what place leaves where it lays a new chunk -/
def PlNew (w : World) (B R : Nat) (F : Fl) (L : List Ck) (at_ : Int) (sz dn : Nat) (db : Nat → Int) (w' : World) : Prop :=
  ∃ cv blk, RecRep w' B R { F with cv := cv, chunked := wrap64 (F.chunked + sz), next := wrap64 (at_ + dn), fresh := false } (L ++ [withData ⟨at_, fun _ => 0, 0, sz, blk⟩ dn db]) ∧ Below B w w'

theorem plNew_of {w wc w1 : World} {B R : Nat} {F F' : Fl} {L : List Ck} {at_ : Int} {sz dn blk : Nat} {db : Nat → Int} {g cq : Nat} (hB : B ≤ w.heap.size) (hP : PlB w B R F L at_ sz wc F' blk) (ecv : F'.cv = .slice (some ⟨g, 0, none⟩) (L.length + 1) cq)
    (hown : w1.ownsRow B 5 1 (.slice (some ⟨blk, 0, none⟩) (0 + dn) sz) (0 + dn) ((List.range 0).map (byt fun _ => 0) ++ (List.range dn).map (byt db))) (hc1 : Chg (· = blk) wc w1) {v : Int} (hv : v = wrap64 (F'.next + dn)) :
    PlNew w B R F L at_ sz dn db ((w1.setCell ⟨g, L.length * 2 + 1, none⟩ (.slice (some ⟨blk, 0, none⟩) dn sz)).setCell ⟨R, 7, none⟩ (.int .i64 v)) := by
  obtain ⟨r, b⟩ := tail_rep (c := ⟨at_, fun _ => 0, 0, sz, blk⟩) (v := v) hP.rep (Nat.le_trans hB hP.bel.size) ecv hown hc1
  simp only [Nat.zero_add] at r b
  refine ⟨F'.cv, blk, ?_, hP.bel.trans b⟩
  have hf := hP.flds
  have e : { F' with next := v } = { F with cv := F'.cv, chunked := wrap64 (F.chunked + sz), next := wrap64 (at_ + dn), fresh := false } := by
    have hn : F'.next = at_ := by rw [hf]
    rw [hv, hn]
    rw [hf]
  rw [← e]
  exact r

theorem own_as {w w2 : World} {B R : Nat} {F : Fl} {L : List Ck} {bs : Nat → Int} {bl cap n : Nat} {v : Value} (h : AddA w B R F L bs bl cap w2) (e : F.cv = v) (hn : L.length = n) (o : Obj) : (w2.alloc o).ownsRow B 72 2 v n (ckAll L) := by
  rw [← e, ← hn]
  exact h.own o
theorem plB_fin' {w wq w3 : World} {B R : Nat} {F : Fl} {L : List Ck} {sz : Nat} {o : Obj} {at_ : Int} {g cq n : Nat} (hB : B ≤ w.heap.size) (hbq : Below B w wq) (hA : AddA wq.drew B R F L (fun _ => 0) 0 sz (wq.drew.alloc (.cells (Array.replicate sz (.int .u8 0)) 5))) (hn : L.length = n)
    (hown : w3.ownsRow B 72 2 (.slice (some ⟨g, 0, none⟩) (n + 1) cq) (n + 1) (ckAll L ++ [.int .i64 at_, .slice (some ⟨wq.heap.size, 0, none⟩) 0 sz])) (hg : ((wq.drew.alloc (.cells (Array.replicate sz (.int .u8 0)) 5)).alloc o).grownBy w3 F.cv.ownBlock) :
    PlB w B R F L at_ sz ((((w3.setCell ⟨R, 5, none⟩ (.slice (some ⟨g, 0, none⟩) (n + 1) cq)).setCell ⟨R, 6, none⟩ (.int .i64 (wrap64 (F.chunked + sz)))).setCell ⟨R, 7, none⟩ (.int .i64 at_)).setCell ⟨R, 8, none⟩ (.bool false))
      { F with cv := .slice (some ⟨g, 0, none⟩) (n + 1) cq, chunked := wrap64 (F.chunked + sz), next := at_, fresh := false } wq.heap.size := by
  subst hn
  exact plB_fin hB hbq hA hown hg

set_option maxHeartbeats 4000000 in
set_option maxRecDepth 100000 in
theorem place37_empty (w : World) (B R : Nat) (F : Fl)  (h : RecRep w B R F (([] : List Ck))) (hB : B ≤ w.heap.size) (do_ : Option Addr) (dn dc : Nat) (hd : dn ≤ 1048576)
    (db : Nat → Int) (hdb : ElemsIn w do_ dn (byt db)) (hdz : do_ = none → dn = 0 ∧ dc = 0) (hdB : ∀ b off, do_ = some ⟨b, off, none⟩ → b < B) (sz : Nat) (hsz : (sz : Int) = max (min 65536 F.room) dn) :
    Calls Trym.prog 37 #[.pointer (some ⟨R, 0, none⟩), .slice do_ dn dc] w fun e w' => e = .returned (.tuple #[]) ∧ PlNew w B R F (([] : List Ck)) (F.next) sz dn db w' := by
  obtain ⟨f0, f1, f2, f3, f4, f5, f6, f7, f8⟩ := h.cells
  obtain ⟨co, cq, ecv⟩ : ∃ co cq, F.cv = .slice co 0 cq := by
    rcases h.row.2 with ⟨h0, _⟩ | ⟨g, cq, cur, e, hb, hg, hle, _, hsz, htk⟩
    · exact ⟨_, _, h0⟩
    · exact ⟨_, _, e⟩
  rw [ecv] at f5
  have H : Hid (RecRep w B R F (([] : List Ck)) ∧ ElemsIn w do_ dn (byt db) ∧ F.cv = .slice co (0) cq ∧ (do_ = none → dn = 0 ∧ dc = 0) ∧ (∀ b off, do_ = some ⟨b, off, none⟩ → b < B) ∧ (sz : Int) = max (min 65536 F.room) dn) := ⟨h, hdb, ecv, hdz, hdB, hsz⟩
  clear h hdb ecv hdz hdB hsz
  obtain ⟨i0, hi, hz0, hz1, hz2⟩ := info_parts Trym.info72
  have hszle : sz ≤ 1048576 := by have := H.out.2.2.2.2.2; omega
  have hszd : dn ≤ sz := by have := H.out.2.2.2.2.2; omega
  obtain ⟨mn, hmn, hmx⟩ := minmax F.room dn sz H.out.2.2.2.2.2

  go_enter Trym.func37, Trym.ntmps37
  go_wp2_with fail
  go_quiet (fail)
  have hq : RecRep (w.drewN nq) B R F (([] : List Ck)) ∧ Below B w (w.drewN nq) ∧ B ≤ (w.drewN nq).heap.size := ⟨rep_drewN H.out.1 nq, below_drewN _ _ _, hB⟩
  go_upto_if 46 with (fail)
  generalize w.drewN nq = wq at *
  clear f0 f1 f2 f3 f4 f5 f6 f7 f8 
  obtain ⟨f0, f1, f2, f3, f4, f5, f6, f7, f8⟩ := hq.1.cells
  rw [H.out.2.2.1] at f5
  have fR := fun j => hq.1.frz j
  have hRlt : R < wq.heap.size := blk_lt hq.1.fields
  have hRne : ¬ R = wq.heap.size := by omega
  have HQ : Hid (RecRep wq B R F (([] : List Ck)) ∧ Below B w wq ∧ B ≤ wq.heap.size) := hq
  clear hq
  go_cut [4] (fun v4 wx => ∃ m, Hid (m = (([] : List Ck)).length) ∧ ∃ F' blk, v4 = .int .i64 ((m : Int) + 1) ∧ PlB w B R F (([] : List Ck)) (F.next) sz wx F' blk)
  case first =>
    go_wp2_with fail
    have HA : Hid (AddA wq.drew B R F (([] : List Ck)) (fun _ => 0) 0 sz (wq.drew.alloc (.cells (Array.replicate sz (.int .u8 0)) 5))) := addA_zero' HQ.out.1 sz
    go_region_law
      ((refine step_append_lies _ (by rfl) _ _ 68 (by rfl) B 72 i0 _ 2 32 Trym.underlying68 hi hz0 hz1 hz2 (by rfl) (by decide) _ (0) (ckAll (([] : List Ck))) (by rfl) (own_as HA.out H.out.2.2.1 rfl _) ⟨wq.heap.size + 1, 0, none⟩ 1 1 [.int .i64 (F.next), .slice (some ⟨wq.heap.size, 0, none⟩) 0 sz] (by rfl) (by rfl) (HA.out.news _ _) (by simp; exact ⟨rfl, rfl⟩) (by decide) (by unfold maxLen; omega) (by omega) (by have := HQ.out.2.2; simp; omega) (wq.heap.size + 1 + 1) (by simp) ?_; intro g cq' w3 hown3 hgr3 hat3 hlt3; have hC := HA.out.grown (H.out.2.2.1.symm ▸ hgr3); have c5 : w3.cell? ⟨R, 5, none⟩ = some F.cv := cell_of_row w3 _ 5 _ _ _ hC.1; have c6 : w3.cell? ⟨R, 6, none⟩ = some (.int .i64 F.chunked) := cell_of_row w3 _ 6 _ _ _ hC.1; have c7 : w3.cell? ⟨R, 7, none⟩ = some (.int .i64 F.next) := cell_of_row w3 _ 7 _ _ _ hC.1; have c8 : w3.cell? ⟨R, 8, none⟩ = some (.bool F.fresh) := cell_of_row w3 _ 8 _ _ _ hC.1; have g3 : ∀ j, w3.frozen? ⟨R, j, none⟩ = false := fun j => frozen_of_row w3 _ j _ _ hC.1; have HC : Hid (_ ∧ _ ∧ _ ∧ _) := ⟨hown3, hgr3, hat3, hlt3⟩; clear hown3 hgr3 hat3 hlt3 hC))
    all_goals go_wp2_with fail
    all_goals
      go_meet
      case rel => exact ⟨_, rfl, _, _, by first | rfl | simp, plB_fin' (L := ([] : List Ck)) hB HQ.out.2.1 HA.out rfl HC.out.1 (by rw [H.out.2.2.1]; exact HC.out.2.1)⟩
  case rest =>
    obtain ⟨m, hm, F', blk, rfl, hP⟩ := hcut
    clear f0 f1 f2 f3 f4 f5 f6 f7 f8 fR hRlt hRne hmn hmx hi hz0 hz1 hz2
    obtain ⟨g, cq, cur, ecv, hgB, hcq, hgb, hgs, htk, hcell⟩ := hP.rep.at (by simp)
    have ecv' : F'.cv = .slice (some ⟨g, 0, none⟩) (m + 1) cq := by rw [ecv, hm.out]; simp
    obtain ⟨_, k1⟩ := hcell m _ (by rw [hm.out, List.getElem?_append_right (Nat.le_refl _)]; simp; rfl)
    obtain ⟨_, _, _, _, _, f5, _, f7, _⟩ := hP.rep.cells
    rw [ecv'] at f5
    have hm5 : m ≤ 6000 := by have := hm.out; simp at this; omega
    have z1 : (0 : Int) < (m : Int) + 1 := by omega
    have z2 : (m : Int) < (m : Int) + 1 := by omega
    have fr7 := hP.rep.frz 7
    have frg : wc.frozen? ⟨g, m * 2 + 1, none⟩ = false := frozen_of_row wc _ _ _ _ hgb
    have hne1 : ¬ g = R := by intro e; have := hP.rep.fields; rw [← e, hgb] at this; simp at this
    obtain ⟨i5, hi, hz0, hz1, hz2⟩ := info_parts Trym.info5
    have H5 : Hid (_ ∧ _ ∧ _ ∧ _) := ⟨hP, ecv', H.out.2.1.bel hP.bel H.out.2.2.2.2.1, H.out.2.2.2.1⟩
    clear hP ecv ecv' hgb hcell htk hgs hcq
    go_wp2_with (guard_target =~ wpList _ _ _ (⟨_, Op.call ⟨Callee.builtin Builtin.append, _, _⟩, _, _, _, _⟩ :: _) _ _; refine wpList_append_fits_any _ (by rfl) _ _ 37 (by rfl) B 5 i5 1 Trym.underlying37 hi hz1 blk 0 sz ((List.range 0).map (byt fun _ => 0)) (by rfl) (tail_own (n := 0) H5.out.1.rep hszle) do_ dn dc ((List.range dn).map (byt db)) (by rfl) (by simp) H5.out.2.2.2 (elems_news (n := 0) H5.out.2.2.1) (by simp [Value.oneCell']) (by omega) ?_; intro w1 hown1 hg1; have hcc := tail_cells (n := 0) H5.out.1.rep (by rw [H5.out.2.1, hm.out]) hg1; rw [← hm.out] at hcc; have u1 := hcc.1; have u2 := hcc.2.1; have u3 := hcc.2.2.1; have u4 := hcc.2.2.2.1; have u5 := hcc.2.2.2.2; have H1 : Hid (_ ∧ _) := ⟨hown1, hg1⟩; clear hown1 hg1 hcc)
    go_end0
    have hm' := hm.out
    subst hm'
    exact ⟨rfl, plNew_of hB H5.out.1 H5.out.2.1 H1.out.1 u5 rfl⟩

set_option maxHeartbeats 4000000 in
set_option maxRecDepth 100000 in
theorem place37_fresh (w : World) (B R : Nat) (F : Fl) (L0 : List Ck) (c : Ck) (hL : L0.length ≤ 5000) (hcp : c.cp ≤ 1048576) (hfr : F.fresh = true) (h : RecRep w B R F (L0 ++ [c])) (hB : B ≤ w.heap.size) (do_ : Option Addr) (dn dc : Nat) (hd : dn ≤ 1048576)
    (db : Nat → Int) (hdb : ElemsIn w do_ dn (byt db)) (hdz : do_ = none → dn = 0 ∧ dc = 0) (hdB : ∀ b off, do_ = some ⟨b, off, none⟩ → b < B) (sz : Nat) (hsz : (sz : Int) = max (min 65536 F.room) dn) :
    Calls Trym.prog 37 #[.pointer (some ⟨R, 0, none⟩), .slice do_ dn dc] w fun e w' => e = .returned (.tuple #[]) ∧ PlNew w B R F (L0 ++ [c]) (wrap64 (c.at_ + c.cp)) sz dn db w' := by
  obtain ⟨f0, f1, f2, f3, f4, f5, f6, f7, f8⟩ := h.cells
  obtain ⟨g0, cq, cur, ecv, hgB, hcq, hgb, hgs, htk, hcell⟩ := h.at (by simp)
  obtain ⟨k0, k1⟩ := hcell L0.length c (by simp)
  simp only [List.length_append, List.length_cons, List.length_nil, Nat.zero_add] at ecv
  obtain ⟨arr, _, _, hb3, _⟩ := (h.bufs c (by simp)).2
  clear hcell htk hgs hgb hcq
  obtain ⟨co, hco⟩ : ∃ co, co = some (⟨g0, 0, none⟩ : Addr) := ⟨_, rfl⟩
  rw [ecv] at f5
  rw [← hco] at ecv
  have HO : Hid (co = some (⟨g0, 0, none⟩ : Addr)) := hco
  clear hco
  have H : Hid (RecRep w B R F (L0 ++ [c]) ∧ ElemsIn w do_ dn (byt db) ∧ F.cv = .slice co (L0.length + 1) cq ∧ (do_ = none → dn = 0 ∧ dc = 0) ∧ (∀ b off, do_ = some ⟨b, off, none⟩ → b < B) ∧ (sz : Int) = max (min 65536 F.room) dn) := ⟨h, hdb, ecv, hdz, hdB, hsz⟩
  clear h hdb ecv hdz hdB hsz
  obtain ⟨i0, hi, hz0, hz1, hz2⟩ := info_parts Trym.info72
  have hszle : sz ≤ 1048576 := by have := H.out.2.2.2.2.2; omega
  have hszd : dn ≤ sz := by have := H.out.2.2.2.2.2; omega
  obtain ⟨mn, hmn, hmx⟩ := minmax F.room dn sz H.out.2.2.2.2.2
  have b0 : ((L0.length : Int) + 1 == 0) = false := by rw [beq_eq_false_iff_ne]; omega
  have z1 : (0 : Int) < (L0.length : Int) + 1 := by omega
  have z2 : (L0.length : Int) < (L0.length : Int) + 1 := by omega
  rw [hfr] at f8
  go_enter Trym.func37, Trym.ntmps37
  go_wp2_with fail
  go_quiet (fail)
  have hq : RecRep (w.drewN nq) B R F (L0 ++ [c]) ∧ Below B w (w.drewN nq) ∧ B ≤ (w.drewN nq).heap.size := ⟨rep_drewN H.out.1 nq, below_drewN _ _ _, hB⟩
  go_upto_if 46 with (fail)
  generalize w.drewN nq = wq at *
  clear f0 f1 f2 f3 f4 f5 f6 f7 f8 k0 k1 b0 z1 z2
  obtain ⟨f0, f1, f2, f3, f4, f5, f6, f7, f8⟩ := hq.1.cells
  rw [H.out.2.2.1] at f5
  have fR := fun j => hq.1.frz j
  have hRlt : R < wq.heap.size := blk_lt hq.1.fields
  have hRne : ¬ R = wq.heap.size := by omega
  have HQ : Hid (RecRep wq B R F (L0 ++ [c]) ∧ Below B w wq ∧ B ≤ wq.heap.size) := hq
  clear hq
  go_cut [4] (fun v4 wx => ∃ m, Hid (m = (L0 ++ [c]).length) ∧ ∃ F' blk, v4 = .int .i64 ((m : Int) + 1) ∧ PlB w B R F (L0 ++ [c]) (wrap64 (c.at_ + c.cp)) sz wx F' blk)
  case first =>
    obtain ⟨g1, cq1, cur1, ecv1, _, _, _, _, _, hcell1⟩ := HQ.out.1.at (by simp)
    rw [H.out.2.2.1, HO.out] at ecv1
    simp at ecv1
    obtain ⟨rfl, rfl⟩ := ecv1
    obtain ⟨k0, k1⟩ := hcell1 L0.length c (by simp)
    clear hcell1
    rw [HO.out] at f5
    have z1 : (0 : Int) < (L0.length : Int) + 1 := by omega
    have z2 : (L0.length : Int) < (L0.length : Int) + 1 := by omega
    go_wp2_with fail
    go_quiet (fail)
    go_wp2_with fail
    have hq : RecRep (wq.drewN nq) B R F (L0 ++ [c]) ∧ Below B w (wq.drewN nq) ∧ B ≤ (wq.drewN nq).heap.size := ⟨rep_drewN HQ.out.1 nq, HQ.out.2.1.trans (below_drewN _ _ _), HQ.out.2.2⟩
    clear f0 f1 f2 f3 f4 f5 f6 f7 f8 k0 k1 z1 z2 HQ fR hRlt hRne
    generalize wq.drewN nq = wq at *
    obtain ⟨f0, f1, f2, f3, f4, f5, f6, f7, f8⟩ := hq.1.cells
    rw [H.out.2.2.1, HO.out] at f5
    have fR := fun j => hq.1.frz j
    have hRlt : R < wq.heap.size := blk_lt hq.1.fields
    have hRne : ¬ R = wq.heap.size := by omega
    have HQ : Hid (RecRep wq B R F (L0 ++ [c]) ∧ Below B w wq ∧ B ≤ wq.heap.size) := hq
    clear hq
    have hco := HO.out
    subst hco
    have HA : Hid (AddA wq.drew B R F (L0 ++ [c]) (fun _ => 0) 0 sz (wq.drew.alloc (.cells (Array.replicate sz (.int .u8 0)) 5))) := addA_zero' HQ.out.1 sz
    go_region_law
      ((refine step_append_lies _ (by rfl) _ _ 68 (by rfl) B 72 i0 _ 2 32 Trym.underlying68 hi hz0 hz1 hz2 (by rfl) (by decide) _ (L0.length + 1) (ckAll (L0 ++ [c])) (by rfl) (own_as HA.out H.out.2.2.1 (by simp) _) ⟨wq.heap.size + 1, 0, none⟩ 1 1 [.int .i64 (wrap64 (c.at_ + c.cp)), .slice (some ⟨wq.heap.size, 0, none⟩) 0 sz] (by rfl) (by rfl) (HA.out.news _ _) (by simp; exact ⟨rfl, rfl⟩) (by decide) (by unfold maxLen; omega) (by omega) (by have := HQ.out.2.2; simp; omega) (wq.heap.size + 1 + 1) (by simp) ?_; intro g cq' w3 hown3 hgr3 hat3 hlt3; have hC := HA.out.grown (H.out.2.2.1.symm ▸ hgr3); have c5 : w3.cell? ⟨R, 5, none⟩ = some F.cv := cell_of_row w3 _ 5 _ _ _ hC.1; have c6 : w3.cell? ⟨R, 6, none⟩ = some (.int .i64 F.chunked) := cell_of_row w3 _ 6 _ _ _ hC.1; have c7 : w3.cell? ⟨R, 7, none⟩ = some (.int .i64 F.next) := cell_of_row w3 _ 7 _ _ _ hC.1; have c8 : w3.cell? ⟨R, 8, none⟩ = some (.bool F.fresh) := cell_of_row w3 _ 8 _ _ _ hC.1; have g3 : ∀ j, w3.frozen? ⟨R, j, none⟩ = false := fun j => frozen_of_row w3 _ j _ _ hC.1; have HC : Hid (_ ∧ _ ∧ _ ∧ _) := ⟨hown3, hgr3, hat3, hlt3⟩; clear hown3 hgr3 hat3 hlt3 hC))
    all_goals go_wp2_with fail
    all_goals
      go_meet
      case rel => exact ⟨_, rfl, _, _, by first | rfl | simp, plB_fin' (L := L0 ++ [c]) hB HQ.out.2.1 HA.out (by simp) HC.out.1 (by rw [H.out.2.2.1]; exact HC.out.2.1)⟩
  case rest =>
    obtain ⟨m, hm, F', blk, rfl, hP⟩ := hcut
    clear f0 f1 f2 f3 f4 f5 f6 f7 f8 fR hRlt hRne hmn hmx hi hz0 hz1 hz2
    obtain ⟨g, cq, cur, ecv, hgB, hcq, hgb, hgs, htk, hcell⟩ := hP.rep.at (by simp)
    have ecv' : F'.cv = .slice (some ⟨g, 0, none⟩) (m + 1) cq := by rw [ecv, hm.out]; simp
    obtain ⟨_, k1⟩ := hcell m _ (by rw [hm.out, List.getElem?_append_right (Nat.le_refl _)]; simp; rfl)
    obtain ⟨_, _, _, _, _, f5, _, f7, _⟩ := hP.rep.cells
    rw [ecv'] at f5
    have hm5 : m ≤ 6000 := by have := hm.out; simp at this; omega
    have z1 : (0 : Int) < (m : Int) + 1 := by omega
    have z2 : (m : Int) < (m : Int) + 1 := by omega
    have fr7 := hP.rep.frz 7
    have frg : wc.frozen? ⟨g, m * 2 + 1, none⟩ = false := frozen_of_row wc _ _ _ _ hgb
    have hne1 : ¬ g = R := by intro e; have := hP.rep.fields; rw [← e, hgb] at this; simp at this
    obtain ⟨i5, hi, hz0, hz1, hz2⟩ := info_parts Trym.info5
    have H5 : Hid (_ ∧ _ ∧ _ ∧ _) := ⟨hP, ecv', H.out.2.1.bel hP.bel H.out.2.2.2.2.1, H.out.2.2.2.1⟩
    clear hP ecv ecv' hgb hcell htk hgs hcq
    go_wp2_with (guard_target =~ wpList _ _ _ (⟨_, Op.call ⟨Callee.builtin Builtin.append, _, _⟩, _, _, _, _⟩ :: _) _ _; refine wpList_append_fits_any _ (by rfl) _ _ 37 (by rfl) B 5 i5 1 Trym.underlying37 hi hz1 blk 0 sz ((List.range 0).map (byt fun _ => 0)) (by rfl) (tail_own (n := 0) H5.out.1.rep hszle) do_ dn dc ((List.range dn).map (byt db)) (by rfl) (by simp) H5.out.2.2.2 (elems_news (n := 0) H5.out.2.2.1) (by simp [Value.oneCell']) (by omega) ?_; intro w1 hown1 hg1; have hcc := tail_cells (n := 0) H5.out.1.rep (by rw [H5.out.2.1, hm.out]) hg1; rw [← hm.out] at hcc; have u1 := hcc.1; have u2 := hcc.2.1; have u3 := hcc.2.2.1; have u4 := hcc.2.2.2.1; have u5 := hcc.2.2.2.2; have H1 : Hid (_ ∧ _) := ⟨hown1, hg1⟩; clear hown1 hg1 hcc)
    go_end0
    have hm' := hm.out
    subst hm'
    exact ⟨rfl, plNew_of hB H5.out.1 H5.out.2.1 H1.out.1 u5 rfl⟩

set_option maxHeartbeats 4000000 in
set_option maxRecDepth 100000 in
theorem place37_full (w : World) (B R : Nat) (F : Fl) (L0 : List Ck) (c : Ck) (hL : L0.length ≤ 5000) (hcp : c.cp ≤ 1048576) (hfr : F.fresh = false) (h : RecRep w B R F (L0 ++ [c])) (hB : B ≤ w.heap.size) (do_ : Option Addr) (dn dc : Nat) (hd : dn ≤ 1048576) (hno : c.cp < c.n + dn)
    (db : Nat → Int) (hdb : ElemsIn w do_ dn (byt db)) (hdz : do_ = none → dn = 0 ∧ dc = 0) (hdB : ∀ b off, do_ = some ⟨b, off, none⟩ → b < B) (sz : Nat) (hsz : (sz : Int) = max (min 65536 F.room) dn) :
    Calls Trym.prog 37 #[.pointer (some ⟨R, 0, none⟩), .slice do_ dn dc] w fun e w' => e = .returned (.tuple #[]) ∧ PlNew w B R F (L0 ++ [c]) (wrap64 (c.at_ + c.cp)) sz dn db w' := by
  obtain ⟨f0, f1, f2, f3, f4, f5, f6, f7, f8⟩ := h.cells
  obtain ⟨g0, cq, cur, ecv, hgB, hcq, hgb, hgs, htk, hcell⟩ := h.at (by simp)
  obtain ⟨k0, k1⟩ := hcell L0.length c (by simp)
  simp only [List.length_append, List.length_cons, List.length_nil, Nat.zero_add] at ecv
  obtain ⟨arr, _, _, hb3, _⟩ := (h.bufs c (by simp)).2
  clear hcell htk hgs hgb hcq
  obtain ⟨co, hco⟩ : ∃ co, co = some (⟨g0, 0, none⟩ : Addr) := ⟨_, rfl⟩
  rw [ecv] at f5
  rw [← hco] at ecv
  have HO : Hid (co = some (⟨g0, 0, none⟩ : Addr)) := hco
  clear hco
  have H : Hid (RecRep w B R F (L0 ++ [c]) ∧ ElemsIn w do_ dn (byt db) ∧ F.cv = .slice co (L0.length + 1) cq ∧ (do_ = none → dn = 0 ∧ dc = 0) ∧ (∀ b off, do_ = some ⟨b, off, none⟩ → b < B) ∧ (sz : Int) = max (min 65536 F.room) dn) := ⟨h, hdb, ecv, hdz, hdB, hsz⟩
  clear h hdb ecv hdz hdB hsz
  obtain ⟨i0, hi, hz0, hz1, hz2⟩ := info_parts Trym.info72
  have hszle : sz ≤ 1048576 := by have := H.out.2.2.2.2.2; omega
  have hszd : dn ≤ sz := by have := H.out.2.2.2.2.2; omega
  obtain ⟨mn, hmn, hmx⟩ := minmax F.room dn sz H.out.2.2.2.2.2
  have b0 : ((L0.length : Int) + 1 == 0) = false := by rw [beq_eq_false_iff_ne]; omega
  have z1 : (0 : Int) < (L0.length : Int) + 1 := by omega
  have z2 : (L0.length : Int) < (L0.length : Int) + 1 := by omega
  rw [hfr] at f8
  have z3 : (c.cp : Int) - c.n < dn := by omega
  have z4 : decide ((c.cp : Int) - c.n < dn) = true := by simpa using z3
  go_enter Trym.func37, Trym.ntmps37
  go_wp2_with fail
  go_quiet (fail)
  have hq : RecRep (w.drewN nq) B R F (L0 ++ [c]) ∧ Below B w (w.drewN nq) ∧ B ≤ (w.drewN nq).heap.size := ⟨rep_drewN H.out.1 nq, below_drewN _ _ _, hB⟩
  go_upto_if 46 with (fail)
  generalize w.drewN nq = wq at *
  clear f0 f1 f2 f3 f4 f5 f6 f7 f8 k0 k1 b0 z1 z2 z3 z4
  obtain ⟨f0, f1, f2, f3, f4, f5, f6, f7, f8⟩ := hq.1.cells
  rw [H.out.2.2.1] at f5
  have fR := fun j => hq.1.frz j
  have hRlt : R < wq.heap.size := blk_lt hq.1.fields
  have hRne : ¬ R = wq.heap.size := by omega
  have HQ : Hid (RecRep wq B R F (L0 ++ [c]) ∧ Below B w wq ∧ B ≤ wq.heap.size) := hq
  clear hq
  go_cut [4] (fun v4 wx => ∃ m, Hid (m = (L0 ++ [c]).length) ∧ ∃ F' blk, v4 = .int .i64 ((m : Int) + 1) ∧ PlB w B R F (L0 ++ [c]) (wrap64 (c.at_ + c.cp)) sz wx F' blk)
  case first =>
    obtain ⟨g1, cq1, cur1, ecv1, _, _, _, _, _, hcell1⟩ := HQ.out.1.at (by simp)
    rw [H.out.2.2.1, HO.out] at ecv1
    simp at ecv1
    obtain ⟨rfl, rfl⟩ := ecv1
    obtain ⟨k0, k1⟩ := hcell1 L0.length c (by simp)
    clear hcell1
    rw [HO.out] at f5
    have z1 : (0 : Int) < (L0.length : Int) + 1 := by omega
    have z2 : (L0.length : Int) < (L0.length : Int) + 1 := by omega
    go_wp2_with fail
    go_quiet (fail)
    go_wp2_with fail
    have hq : RecRep (wq.drewN nq) B R F (L0 ++ [c]) ∧ Below B w (wq.drewN nq) ∧ B ≤ (wq.drewN nq).heap.size := ⟨rep_drewN HQ.out.1 nq, HQ.out.2.1.trans (below_drewN _ _ _), HQ.out.2.2⟩
    clear f0 f1 f2 f3 f4 f5 f6 f7 f8 k0 k1 z1 z2 HQ fR hRlt hRne
    generalize wq.drewN nq = wq at *
    obtain ⟨f0, f1, f2, f3, f4, f5, f6, f7, f8⟩ := hq.1.cells
    rw [H.out.2.2.1, HO.out] at f5
    have fR := fun j => hq.1.frz j
    have hRlt : R < wq.heap.size := blk_lt hq.1.fields
    have hRne : ¬ R = wq.heap.size := by omega
    have HQ : Hid (RecRep wq B R F (L0 ++ [c]) ∧ Below B w wq ∧ B ≤ wq.heap.size) := hq
    clear hq
    have hco := HO.out
    subst hco
    have HA : Hid (AddA wq.drew B R F (L0 ++ [c]) (fun _ => 0) 0 sz (wq.drew.alloc (.cells (Array.replicate sz (.int .u8 0)) 5))) := addA_zero' HQ.out.1 sz
    go_region_law
      ((refine step_append_lies _ (by rfl) _ _ 68 (by rfl) B 72 i0 _ 2 32 Trym.underlying68 hi hz0 hz1 hz2 (by rfl) (by decide) _ (L0.length + 1) (ckAll (L0 ++ [c])) (by rfl) (own_as HA.out H.out.2.2.1 (by simp) _) ⟨wq.heap.size + 1, 0, none⟩ 1 1 [.int .i64 (wrap64 (c.at_ + c.cp)), .slice (some ⟨wq.heap.size, 0, none⟩) 0 sz] (by rfl) (by rfl) (HA.out.news _ _) (by simp; exact ⟨rfl, rfl⟩) (by decide) (by unfold maxLen; omega) (by omega) (by have := HQ.out.2.2; simp; omega) (wq.heap.size + 1 + 1) (by simp) ?_; intro g cq' w3 hown3 hgr3 hat3 hlt3; have hC := HA.out.grown (H.out.2.2.1.symm ▸ hgr3); have c5 : w3.cell? ⟨R, 5, none⟩ = some F.cv := cell_of_row w3 _ 5 _ _ _ hC.1; have c6 : w3.cell? ⟨R, 6, none⟩ = some (.int .i64 F.chunked) := cell_of_row w3 _ 6 _ _ _ hC.1; have c7 : w3.cell? ⟨R, 7, none⟩ = some (.int .i64 F.next) := cell_of_row w3 _ 7 _ _ _ hC.1; have c8 : w3.cell? ⟨R, 8, none⟩ = some (.bool F.fresh) := cell_of_row w3 _ 8 _ _ _ hC.1; have g3 : ∀ j, w3.frozen? ⟨R, j, none⟩ = false := fun j => frozen_of_row w3 _ j _ _ hC.1; have HC : Hid (_ ∧ _ ∧ _ ∧ _) := ⟨hown3, hgr3, hat3, hlt3⟩; clear hown3 hgr3 hat3 hlt3 hC))
    all_goals go_wp2_with fail
    all_goals
      go_meet
      case rel => exact ⟨_, rfl, _, _, by first | rfl | simp, plB_fin' (L := L0 ++ [c]) hB HQ.out.2.1 HA.out (by simp) HC.out.1 (by rw [H.out.2.2.1]; exact HC.out.2.1)⟩
  case rest =>
    obtain ⟨m, hm, F', blk, rfl, hP⟩ := hcut
    clear f0 f1 f2 f3 f4 f5 f6 f7 f8 fR hRlt hRne hmn hmx hi hz0 hz1 hz2
    obtain ⟨g, cq, cur, ecv, hgB, hcq, hgb, hgs, htk, hcell⟩ := hP.rep.at (by simp)
    have ecv' : F'.cv = .slice (some ⟨g, 0, none⟩) (m + 1) cq := by rw [ecv, hm.out]; simp
    obtain ⟨_, k1⟩ := hcell m _ (by rw [hm.out, List.getElem?_append_right (Nat.le_refl _)]; simp; rfl)
    obtain ⟨_, _, _, _, _, f5, _, f7, _⟩ := hP.rep.cells
    rw [ecv'] at f5
    have hm5 : m ≤ 6000 := by have := hm.out; simp at this; omega
    have z1 : (0 : Int) < (m : Int) + 1 := by omega
    have z2 : (m : Int) < (m : Int) + 1 := by omega
    have fr7 := hP.rep.frz 7
    have frg : wc.frozen? ⟨g, m * 2 + 1, none⟩ = false := frozen_of_row wc _ _ _ _ hgb
    have hne1 : ¬ g = R := by intro e; have := hP.rep.fields; rw [← e, hgb] at this; simp at this
    obtain ⟨i5, hi, hz0, hz1, hz2⟩ := info_parts Trym.info5
    have H5 : Hid (_ ∧ _ ∧ _ ∧ _) := ⟨hP, ecv', H.out.2.1.bel hP.bel H.out.2.2.2.2.1, H.out.2.2.2.1⟩
    clear hP ecv ecv' hgb hcell htk hgs hcq
    go_wp2_with (guard_target =~ wpList _ _ _ (⟨_, Op.call ⟨Callee.builtin Builtin.append, _, _⟩, _, _, _, _⟩ :: _) _ _; refine wpList_append_fits_any _ (by rfl) _ _ 37 (by rfl) B 5 i5 1 Trym.underlying37 hi hz1 blk 0 sz ((List.range 0).map (byt fun _ => 0)) (by rfl) (tail_own (n := 0) H5.out.1.rep hszle) do_ dn dc ((List.range dn).map (byt db)) (by rfl) (by simp) H5.out.2.2.2 (elems_news (n := 0) H5.out.2.2.1) (by simp [Value.oneCell']) (by omega) ?_; intro w1 hown1 hg1; have hcc := tail_cells (n := 0) H5.out.1.rep (by rw [H5.out.2.1, hm.out]) hg1; rw [← hm.out] at hcc; have u1 := hcc.1; have u2 := hcc.2.1; have u3 := hcc.2.2.1; have u4 := hcc.2.2.2.1; have u5 := hcc.2.2.2.2; have H1 : Hid (_ ∧ _) := ⟨hown1, hg1⟩; clear hown1 hg1 hcc)
    go_end0
    have hm' := hm.out
    subst hm'
    exact ⟨rfl, plNew_of hB H5.out.1 H5.out.2.1 H1.out.1 u5 rfl⟩

end Go.Proofs.Qxb6603459aMods
