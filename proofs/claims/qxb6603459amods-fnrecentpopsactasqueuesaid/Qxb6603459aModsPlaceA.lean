import Derived.Test.Qxb6603459aModsRecF
import Derived.Deep.DeepCutAuto
namespace Go.Proofs.Qxb6603459aMods
open Go.RowKit Go.MapFns

theorem len_ckAll (L : List Ck) : (ckAll L).length = L.length * 2 := by
  unfold ckAll
  induction L with
  | nil => rfl
  | cons c L ih => simp [ckCells, ih]; omega

theorem get_ckAll {L : List Ck} {i : Nat} {c : Ck} (h : L[i]? = some c) : (ckAll L)[i * 2]? = some (.int .i64 c.at_) ∧ (ckAll L)[i * 2 + 1]? = some (.slice (some ⟨c.blk, 0, none⟩) c.n c.cp) := by
  unfold ckAll
  induction L generalizing i with
  | nil => simp at h
  | cons a L ih =>
    cases i with
    | zero => simp at h; subst h; simp [ckCells]
    | succ i =>
      have hi : L[i]? = some c := by simpa using h
      have := ih hi
      rw [show (i + 1) * 2 = i * 2 + 2 by omega]
      simpa [ckCells] using this

/-- the cells of chunk i in r.chunks -/
theorem RecRep.at {w : World} {B R : Nat} {F : Fl} {L : List Ck} (h : RecRep w B R F L) (hpos : 0 < L.length) : ∃ g cq cur, F.cv = .slice (some ⟨g, 0, none⟩) L.length cq ∧ B ≤ g ∧ L.length ≤ cq ∧ w.heap[g]? = some (.cells cur 72 (0, 0)) ∧ cur.size = cq * 2 ∧ cur.toList.take (L.length * 2) = ckAll L ∧
    ∀ i c, L[i]? = some c → w.cell? ⟨g, i * 2, none⟩ = some (.int .i64 c.at_) ∧ w.cell? ⟨g, i * 2 + 1, none⟩ = some (.slice (some ⟨c.blk, 0, none⟩) c.n c.cp) := by
  rcases h.row.2 with ⟨_, h0⟩ | ⟨g, cq, cur, e, hb, hg, hle, _, hsz, htk⟩
  · omega
  · refine ⟨g, cq, cur, e, hb, hle, hg, hsz, htk, fun i c hi => ?_⟩
    obtain ⟨g1, g2⟩ := get_ckAll hi
    have hlt : i < L.length := by
      rcases Nat.lt_or_ge i L.length with h | h
      · exact h
      · rw [List.getElem?_eq_none h] at hi; cases hi
    rw [← htk] at g1 g2
    rw [List.getElem?_take_of_lt (by omega)] at g1 g2
    exact ⟨by rw [cell_of_row w _ _ _ _ _ hg, ← Array.getElem?_toList]; exact g1, by rw [cell_of_row w _ _ _ _ _ hg, ← Array.getElem?_toList]; exact g2⟩

/-- the fields of r -/
theorem RecRep.cells {w : World} {B R : Nat} {F : Fl} {L : List Ck} (h : RecRep w B R F L) :
    w.cell? ⟨R, 0, none⟩ = some (.int .i64 F.room) ∧ w.cell? ⟨R, 1, none⟩ = some (.int .u64 F.first) ∧ w.cell? ⟨R, 2, none⟩ = some F.ev ∧ w.cell? ⟨R, 3, none⟩ = some (.int .i64 F.head) ∧ w.cell? ⟨R, 4, none⟩ = some (.int .i64 F.start) ∧ w.cell? ⟨R, 5, none⟩ = some F.cv ∧
    w.cell? ⟨R, 6, none⟩ = some (.int .i64 F.chunked) ∧ w.cell? ⟨R, 7, none⟩ = some (.int .i64 F.next) ∧ w.cell? ⟨R, 8, none⟩ = some (.bool F.fresh) :=
  ⟨cell_of_row w _ 0 _ _ _ h.fields, cell_of_row w _ 1 _ _ _ h.fields, cell_of_row w _ 2 _ _ _ h.fields, cell_of_row w _ 3 _ _ _ h.fields, cell_of_row w _ 4 _ _ _ h.fields, cell_of_row w _ 5 _ _ _ h.fields, cell_of_row w _ 6 _ _ _ h.fields, cell_of_row w _ 7 _ _ _ h.fields, cell_of_row w _ 8 _ _ _ h.fields⟩
theorem RecRep.frz {w : World} {B R : Nat} {F : Fl} {L : List Ck} (h : RecRep w B R F L) (j : Nat) : w.frozen? ⟨R, j, none⟩ = false := frozen_of_row w _ j _ _ h.fields

/-- the last chunk with the data behind its bytes -/
def withData (c : Ck) (dn : Nat) (db : Nat → Int) : Ck := { c with bs := fun j => if j < c.n then c.bs j else db (j - c.n), n := c.n + dn }

theorem BufAt.owns {w : World} {c : Ck} {B : Nat} (h : BufAt w c) (hB : B ≤ c.blk) (hm : c.cp ≤ 1048576) : w.ownsRow B 5 1 (.slice (some ⟨c.blk, 0, none⟩) c.n c.cp) c.n ((List.range c.n).map (byt c.bs)) := by
  obtain ⟨arr, h1, h2, h3, h4⟩ := h
  refine ⟨by simp, .inr ⟨_, _, arr, rfl, hB, h1, h3, by unfold maxLen; omega, by omega, ?_⟩⟩
  apply List.ext_getElem?
  intro j
  rw [Nat.mul_one]
  by_cases hj : j < c.n
  · rw [List.getElem?_take_of_lt hj, Array.getElem?_toList, h4 j hj]
    simp [hj]
  · rw [List.getElem?_eq_none (by simp; omega), List.getElem?_eq_none (by simp; omega)]

theorem BufAt.of_owns {w : World} {c : Ck} {B dn : Nat} {db : Nat → Int} (h : w.ownsRow B 5 1 (.slice (some ⟨c.blk, 0, none⟩) (c.n + dn) c.cp) (c.n + dn) ((List.range c.n).map (byt c.bs) ++ (List.range dn).map (byt db))) : BufAt w (withData c dn db) := by
  rcases h.2 with ⟨h0, _⟩ | ⟨g, cq, cur, e, hb, hg, hle, _, hsz, htk⟩
  · cases h0
  · simp at e
    obtain ⟨rfl, rfl⟩ := e
    refine ⟨cur, hg, by show cur.size = c.cp; omega, hle, fun j hj => ?_⟩
    have hj' : j < c.n + dn := hj
    have := congrArg (fun l => l[j]?) htk
    simp only [Nat.mul_one] at this
    rw [List.getElem?_take_of_lt hj', Array.getElem?_toList] at this
    rw [this]
    by_cases hc : j < c.n
    · rw [List.getElem?_append_left (by simpa using hc)]
      simp [withData, hc]
    · rw [List.getElem?_append_right (by simp; omega)]
      have : j - c.n < dn := by omega
      simp [withData, hc, this]

/-- the tail of place: the bytes behind the last chunk's, the row's cell, next -/
theorem tail_rep {w w1 : World} {B R : Nat} {F : Fl} {L0 : List Ck} {c : Ck} {g cq dn : Nat} {db : Nat → Int} {v : Int} (h : RecRep w B R F (L0 ++ [c])) (hB : B ≤ w.heap.size) (ecv : F.cv = .slice (some ⟨g, 0, none⟩) (L0.length + 1) cq)
    (hown : w1.ownsRow B 5 1 (.slice (some ⟨c.blk, 0, none⟩) (c.n + dn) c.cp) (c.n + dn) ((List.range c.n).map (byt c.bs) ++ (List.range dn).map (byt db))) (hc1 : Chg (· = c.blk) w w1) :
    RecRep ((w1.setCell ⟨g, L0.length * 2 + 1, none⟩ (.slice (some ⟨c.blk, 0, none⟩) (c.n + dn) c.cp)).setCell ⟨R, 7, none⟩ (.int .i64 v)) B R { F with next := v } (L0 ++ [withData c dn db]) ∧
    Below B w ((w1.setCell ⟨g, L0.length * 2 + 1, none⟩ (.slice (some ⟨c.blk, 0, none⟩) (c.n + dn) c.cp)).setCell ⟨R, 7, none⟩ (.int .i64 v)) := by
  have hlen : (L0 ++ [c]).length = L0.length + 1 := by simp
  have hrow := h.row
  rw [ecv, hlen] at hrow
  rcases hrow.2 with ⟨h0, _⟩ | ⟨g', cq', cur, e, hgB, hg, hle, hmx, hsz, htk⟩
  · cases h0
  simp at e
  obtain ⟨rfl, rfl⟩ := e
  have hcb := (h.bufs c (by simp)).1
  obtain ⟨arr, hb1, _⟩ := (h.bufs c (by simp)).2
  have n1 : g ≠ c.blk := by intro e; rw [e, hb1] at hg; simp at hg
  have n2 : R ≠ c.blk := by intro e; have := h.fields; rw [e, hb1] at this; simp at this
  have n3 : g ≠ R := by intro e; have := h.fields; rw [← e, hg] at this; simp at this
  have hgw1 := hc1.blk hg n1
  have hRw1 := hc1.blk h.fields n2
  have hc2 : Chg (· = g) w1 (w1.setCell ⟨g, L0.length * 2 + 1, none⟩ (.slice (some ⟨c.blk, 0, none⟩) (c.n + dn) c.cp)) := Chg.setCell _ _ _ rfl
  have hgw2 := heap_setCell_same w1 g (L0.length * 2 + 1) cur 72 (.slice (some ⟨c.blk, 0, none⟩) (c.n + dn) c.cp) hgw1
  have hRw2 := hc2.blk hRw1 (fun e => n3 e.symm)
  generalize hw2 : w1.setCell ⟨g, L0.length * 2 + 1, none⟩ (.slice (some ⟨c.blk, 0, none⟩) (c.n + dn) c.cp) = w2 at *
  have hc3 : Chg (· = R) w2 (w2.setCell ⟨R, 7, none⟩ (.int .i64 v)) := Chg.setCell _ _ _ rfl
  have hRw3 := heap_setCell_same w2 R 7 _ 70 (.int .i64 v) hRw2
  generalize hw3 : w2.setCell ⟨R, 7, none⟩ (.int .i64 v) = w3 at *
  refine ⟨⟨h.base, hRw3, ?_, ?_, ?_⟩, ?_⟩
  · show w3.ownsRow B 72 2 F.cv _ _
    rw [ecv]
    have e1 : (L0 ++ [withData c dn db]).length = L0.length + 1 := by simp
    rw [e1]
    refine ⟨by rw [len_ckAll]; simp, .inr ⟨g, cq, _, rfl, hgB, hc3.blk hgw2 n3, hle, hmx, by simp [hsz], ?_⟩⟩
    have e2 : ckAll (L0 ++ [withData c dn db]) = (ckAll (L0 ++ [c])).set (L0.length * 2 + 1) (.slice (some ⟨c.blk, 0, none⟩) (c.n + dn) c.cp) := by
      have : (ckAll L0).length = L0.length * 2 := len_ckAll L0
      have a1 : ckAll (L0 ++ [withData c dn db]) = ckAll L0 ++ [.int .i64 c.at_, .slice (some ⟨c.blk, 0, none⟩) (c.n + dn) c.cp] := by simp [ckAll, ckCells, withData]
      have a2 : ckAll (L0 ++ [c]) = ckAll L0 ++ [.int .i64 c.at_, .slice (some ⟨c.blk, 0, none⟩) c.n c.cp] := by simp [ckAll, ckCells]
      rw [a1, a2, List.set_append_right _ _ (by omega), this]
      simp
    rw [e2, ← htk]
    simp [List.take_set]
  · intro x hx
    have key : ∀ y : Ck, y ∈ L0 → y.blk ≠ c.blk := by
      intro y hy e
      have := h.nodup
      rw [List.map_append, List.nodup_append] at this
      exact this.2.2 _ (List.mem_map.2 ⟨y, hy, rfl⟩) c.blk (by simp) e
    have fin : ∀ y : Ck, BufAt w1 y → BufAt w3 y := by
      intro y hy
      have hy' := hy
      obtain ⟨a, ha, _⟩ := hy'
      have m1 : y.blk ≠ g := by intro e; rw [e, hgw1] at ha; simp at ha
      have m2 : y.blk ≠ R := by intro e; rw [e, hRw1] at ha; simp at ha
      exact (hy.chg hc2 m1).chg hc3 m2
    rcases List.mem_append.1 hx with hm | hm
    · obtain ⟨b1, b2⟩ := h.bufs x (by simp [hm])
      exact ⟨b1, fin x (b2.chg hc1 (key x hm))⟩
    · simp at hm
      subst hm
      exact ⟨hcb, fin _ (BufAt.of_owns hown)⟩
  · have : ((L0 ++ [withData c dn db]).map (·.blk)) = ((L0 ++ [c]).map (·.blk)) := by simp [withData]
    rw [this]
    exact h.nodup
  · refine ((hc1.below hB (fun i hi => by omega)).trans (hc2.below (Nat.le_trans hB hc1.size) (fun i hi => by omega))).trans (hc3.below (Nat.le_trans hB (Nat.le_trans hc1.size hc2.size)) (fun i hi => by have := h.base; omega))

theorem chg_ofDrewN {S : Nat → Prop} {w w' : World} {n : Nat} (h : Chg S (w.drewN n) w') : Chg S w w' := ⟨h.os, h.tape, h.output, h.size, h.block⟩
theorem tail_own {w : World} {B R : Nat} {F : Fl} {L0 : List Ck} {c : Ck} {n : Nat} (h : RecRep w B R F (L0 ++ [c])) (hcp : c.cp ≤ 1048576) : (w.drewN n).ownsRow B 5 1 (.slice (some ⟨c.blk, 0, none⟩) c.n c.cp) c.n ((List.range c.n).map (byt c.bs)) :=
  (h.bufs c (by simp)).2.owns (h.bufs c (by simp)).1 hcp
theorem elems_news {w : World} {do_ : Option Addr} {dn : Nat} {f : Nat → Value} {n : Nat} (h : ElemsIn w do_ dn f) : ∀ ad, do_ = some ad → ∀ j u, ((List.range dn).map f)[j]? = some u → (w.drewN n).cell? (ad.add j) = some u := by
  intro ad e j u hj
  have hlt : j < dn := by
    rcases Nat.lt_or_ge j dn with h | h
    · exact h
    · rw [List.getElem?_eq_none (by simpa using h)] at hj; cases hj
  obtain ⟨b, off, e', hc⟩ := h j hlt
  rw [e] at e'
  simp at e'
  subst e'
  simp [hlt] at hj
  rw [Addr.add_mid]
  exact hc.trans (by rw [hj])
theorem tail_cells {w w1 : World} {B R : Nat} {F : Fl} {L0 : List Ck} {c : Ck} {g cq n : Nat} (h : RecRep w B R F (L0 ++ [c])) (ecv : F.cv = .slice (some ⟨g, 0, none⟩) (L0.length + 1) cq) (hg : (w.drewN n).grownBy w1 (some c.blk)) :
    w1.cell? ⟨g, L0.length * 2 + 1, none⟩ = some (.slice (some ⟨c.blk, 0, none⟩) c.n c.cp) ∧ w1.frozen? ⟨g, L0.length * 2 + 1, none⟩ = false ∧ w1.cell? ⟨R, 7, none⟩ = some (.int .i64 F.next) ∧ w1.frozen? ⟨R, 7, none⟩ = false ∧ Chg (· = c.blk) w w1 := by
  obtain ⟨g', cq', cur, e, hgB, hcq, hgb, hgs, htk, hcell⟩ := h.at (by simp)
  rw [ecv] at e
  simp at e
  obtain ⟨rfl, rfl⟩ := e
  have hc : Chg (· = c.blk) w w1 := chg_ofDrewN ((grown_chg hg).mono fun _ _ h => by cases h; rfl)
  obtain ⟨arr, hb1, _⟩ := (h.bufs c (by simp)).2
  have n1 : g ≠ c.blk := by intro e; rw [e, hb1] at hgb; simp at hgb
  have n2 : R ≠ c.blk := by intro e; have := h.fields; rw [e, hb1] at this; simp at this
  have k1 := (hcell L0.length c (by simp)).2
  exact ⟨hc.cell k1 n1, frozen_of_row w1 _ _ _ _ (hc.blk hgb n1), hc.cell h.cells.2.2.2.2.2.2.2.1 n2, frozen_of_row w1 _ _ _ _ (hc.blk h.fields n2), hc⟩

set_option maxHeartbeats 2000000 in
theorem place37_in (w : World) (B R : Nat) (F : Fl) (L0 : List Ck) (c : Ck) (h : RecRep w B R F (L0 ++ [c])) (hB : B ≤ w.heap.size) (hL : L0.length ≤ 5000) (do_ : Option Addr) (dn dc : Nat)
    (hfr : F.fresh = false) (hfit : dn ≤ c.cp - c.n) (hcp : c.cp ≤ 1048576) (db : Nat → Int) (hdb : ElemsIn w do_ dn (byt db)) (hdz : do_ = none → dn = 0 ∧ dc = 0) :
    Calls Trym.prog 37 #[.pointer (some ⟨R, 0, none⟩), .slice do_ dn dc] w fun e w' => e = .returned (.tuple #[]) ∧ RecRep w' B R { F with next := wrap64 (F.next + dn) } (L0 ++ [withData c dn db]) ∧ Below B w w' := by
  obtain ⟨g, cq, cur, ecv, hgB, hcq, hgb, hgs, htk, hcell⟩ := h.at (by simp)
  obtain ⟨k0, k1⟩ := hcell L0.length c (by simp)
  obtain ⟨f0, f1, f2, f3, f4, f5, f6, f7, f8⟩ := h.cells
  rw [ecv] at f5
  simp only [List.length_append, List.length_cons, List.length_nil, Nat.zero_add] at f5
  obtain ⟨arr, hb1, hb2, hb3, hb4⟩ := (h.bufs c (by simp)).2
  have b0 : ((L0.length : Int) + 1 == 0) = false := by rw [beq_eq_false_iff_ne]; omega
  have z1 : (0 : Int) < (L0.length : Int) + 1 := by omega
  have z2 : (L0.length : Int) < (L0.length : Int) + 1 := by omega
  have z3 : ¬ ((c.cp : Int) - c.n < dn) := by omega
  have z4 : decide ((c.cp : Int) - c.n < dn) = false := by simpa using z3
  obtain ⟨i5, hi, hz0, hz1, hz2⟩ := info_parts Trym.info5
  have fr7 := h.frz 7
  have frg : w.frozen? ⟨g, L0.length * 2 + 1, none⟩ = false := frozen_of_row w _ _ _ _ hgb
  rw [hfr] at f8
  have hne1 : ¬ g = R := by intro e; have := h.fields; rw [← e, hgb] at this; simp at this
  have H : Hid (RecRep w B R F (L0 ++ [c]) ∧ F.cv = .slice (some ⟨g, 0, none⟩) (L0.length + 1) cq ∧ ElemsIn w do_ dn (byt db)) := ⟨h, by simpa using ecv, hdb⟩
  clear h hgb hcell htk hb1 hb4 hgs ecv hdb
  go_enter Trym.func37, Trym.ntmps37
  go_wp2_with fail
  go_quiet (fail)
  go_wp2_with (guard_target =~ wpList _ _ _ (⟨_, Op.call ⟨Callee.builtin Builtin.append, _, _⟩, _, _, _, _⟩ :: _) _ _; refine wpList_append_fits_any _ (by rfl) _ _ 37 (by rfl) B 5 i5 1 Trym.underlying37 hi hz1 c.blk c.n c.cp ((List.range c.n).map (byt c.bs)) (by rfl) (show (w.drewN nq).ownsRow B 5 1 _ _ _ from tail_own H.out.1 hcp) do_ dn dc ((List.range dn).map (byt db)) (by rfl) (by simp) hdz (elems_news H.out.2.2) (by simp [Value.oneCell']) (by omega) ?_; intro w1 hown1 hg1; have hcc := tail_cells H.out.1 H.out.2.1 hg1; have u1 := hcc.1; have u2 := hcc.2.1; have u3 := hcc.2.2.1; have u4 := hcc.2.2.2.1; have u5 := hcc.2.2.2.2; have H1 : Hid (_ ∧ _) := ⟨hown1, hg1⟩; clear hown1 hg1 hcc)
  go_end0
  exact ⟨rfl, tail_rep H.out.1 hB H.out.2.1 H1.out.1 u5⟩
end Go.Proofs.Qxb6603459aMods
