/- pop, walked. Own work. -/
import Derived.Test.Qxb6603459aModsPopA
import Derived.BigRegion
import Derived.Deep.DeepCutAuto
namespace Go.Proofs.Qxb6603459aMods
open Go.RowKit Go.MapFns
set_option linter.unusedVariables false

theorem fieldsCells {w : World} {R : Nat} {F : Fl} (h : w.heap[R]? = some (.cells (recArr F) 70 (0, 0))) :
    w.cell? ⟨R, 0, none⟩ = some (.int .i64 F.room) ∧ w.cell? ⟨R, 1, none⟩ = some (.int .u64 F.first) ∧ w.cell? ⟨R, 2, none⟩ = some F.ev ∧ w.cell? ⟨R, 3, none⟩ = some (.int .i64 F.head) ∧ w.cell? ⟨R, 4, none⟩ = some (.int .i64 F.start) ∧ w.cell? ⟨R, 5, none⟩ = some F.cv ∧
    w.cell? ⟨R, 6, none⟩ = some (.int .i64 F.chunked) ∧ w.cell? ⟨R, 7, none⟩ = some (.int .i64 F.next) ∧ w.cell? ⟨R, 8, none⟩ = some (.bool F.fresh) ∧ ∀ j, w.frozen? ⟨R, j, none⟩ = false :=
  ⟨cell_of_row w _ 0 _ _ _ h, cell_of_row w _ 1 _ _ _ h, cell_of_row w _ 2 _ _ _ h, cell_of_row w _ 3 _ _ _ h, cell_of_row w _ 4 _ _ _ h, cell_of_row w _ 5 _ _ _ h, cell_of_row w _ 6 _ _ _ h, cell_of_row w _ 7 _ _ _ h, cell_of_row w _ 8 _ _ _ h, fun j => frozen_of_row w _ j _ _ h⟩

theorem set_fields {w : World} {R : Nat} {F F' : Fl} (h : w.heap[R]? = some (.cells (recArr F) 70 (0, 0))) (j : Nat) (v : Value) (hF : (recArr F).setIfInBounds j v = recArr F') :
    (w.setCell ⟨R, j, none⟩ v).heap[R]? = some (.cells (recArr F') 70 (0, 0)) := by rw [← hF]; exact heap_setCell_same w R j _ 70 v h

/-- where pop stands: what lies in memory, and what has changed since w -/
structure PopSt (w wc : World) (R eb : Nat) (F : Fl) (L : List Ck) (m ec : Nat) (ef : Nat → Int) : Prop where
  fields : wc.heap[R]? = some (.cells (recArr F) 70 (0, 0))
  ends : EndsAt wc eb m ec ef
  cks : CksAt wc F.cv L
  chg : Chg (fun i => i = R ∨ i = eb) w wc

theorem PopSt.ne {w wc : World} {R eb : Nat} {F : Fl} {L : List Ck} {m ec : Nat} {ef : Nat → Int} (h : PopSt w wc R eb F L m ec ef) : eb ≠ R := by
  intro e
  obtain ⟨arr, h1, _⟩ := h.ends.row
  rw [e, h.fields] at h1
  simp at h1
theorem PopSt.set {w wc : World} {R eb : Nat} {F F' : Fl} {L : List Ck} {m ec : Nat} {ef : Nat → Int} (h : PopSt w wc R eb F L m ec ef) (j : Nat) (v : Value) (hF : (recArr F).setIfInBounds j v = recArr F') (hcv : F'.cv = F.cv) : PopSt w (wc.setCell ⟨R, j, none⟩ v) R eb F' L m ec ef := by
  have hc : Chg (· = R) wc (wc.setCell ⟨R, j, none⟩ v) := Chg.setCell _ _ _ rfl
  refine ⟨set_fields h.fields j v hF, h.ends.chg hc h.ne, ?_, h.chg.trans (hc.mono fun i _ e => .inl e)⟩
  rw [hcv]
  refine h.cks.chg hc ?_
  intro b arr t e hb
  rw [e, h.fields] at hb
  simp at hb
  obtain ⟨_, rfl⟩ := hb
  exact ⟨by decide, by decide⟩
theorem PopSt.new {w wc wd : World} {R eb : Nat} {F : Fl} {L : List Ck} {m ec : Nat} {ef : Nat → Int} (h : PopSt w wc R eb F L m ec ef) (hc : Chg (fun _ => False) wc wd) : PopSt w wd R eb F L m ec ef :=
  ⟨hc.blk h.fields (by simp), h.ends.chg hc (by simp), h.cks.chg hc (fun _ _ _ h => h.elim), h.chg.trans (hc.mono fun _ _ h => h.elim)⟩

theorem PopSt.fin {w wc : World} {R eb : Nat} {F : Fl} {L : List Ck} {m ec : Nat} {ef : Nat → Int} {co : Option Addr} {cq k : Nat} (h : PopSt w wc R eb F L m ec ef) (hcv : F.cv = .slice co L.length cq) (hk : k ≤ L.length) (v : Value) (hv : v = .slice (if cq = k then co else co.map (·.add (k * 2))) (L.length - k) (cq - k)) :
    PopSt w (wc.setCell ⟨R, 5, none⟩ v) R eb { F with cv := v } (L.drop k) m ec ef := by
  have hc : Chg (· = R) wc (wc.setCell ⟨R, 5, none⟩ v) := Chg.setCell _ _ _ rfl
  refine ⟨set_fields h.fields 5 v rfl, h.ends.chg hc h.ne, ?_, h.chg.trans (hc.mono fun i _ e => .inl e)⟩
  have h1 := h.cks
  rw [hcv] at h1
  have h2 := h1.drop hk
  rw [← hv] at h2
  refine h2.chg hc ?_
  intro b arr t e hb
  rw [e, h.fields] at hb
  simp at hb
  obtain ⟨_, rfl⟩ := hb
  exact ⟨by decide, by decide⟩
theorem PopSt.copied {w wc wd : World} {R eb : Nat} {F : Fl} {L : List Ck} {m ec q : Nat} {ef ef' : Nat → Int} {arr : Array Value} {cs : List Value} (h : PopSt w wc R eb F L m ec ef) (hc : Chg (· = eb) wc wd) (hb : wd.heap[eb]? = some (.cells (arr.toList.take 0 ++ cs ++ arr.toList.drop (0 + cs.length)).toArray 2 (0, 0)))
    (hcs : cs = (List.range q).map (i6 ef')) (hq : q ≤ ec) : PopSt w wd R eb F L q ec ef' := by
  have hne := h.ne
  refine ⟨hc.blk h.fields (fun e => hne e.symm), ⟨hq, _, hb, ?_⟩, h.cks.chg hc ?_, h.chg.trans (hc.mono fun i _ e => .inr e)⟩
  · intro i hi
    rw [hcs]
    simp [List.getElem?_append_left, hi, i6]
  · intro b arr' t e hb'
    obtain ⟨a2, h2, _⟩ := h.ends.row
    rw [e, h2] at hb'
    simp at hb'
    obtain ⟨_, rfl⟩ := hb'
    exact ⟨by decide, by decide⟩

theorem copy_down (w : World) (eb m ec h q : Nat) (ef : Nat → Int) (arr : Array Value) (cs : List Value) (hb : w.heap[eb]? = some (.cells arr 2 (0, 0))) (hh : h + 1 < m) (hq : q = m - (h + 1)) (hcs : cs = (List.range q).map (i6 (fun i => ef (h + 1 + i)))) (hcl : cs.length = q) (hcap : m ≤ ec) (ha : ∀ i, i < m → arr[i]? = some (.int .i64 (ef i))) :
    ∃ w5, (Builtin.copy_ #[35, 35] 3 #[.slice (some ⟨eb, 0, none⟩) m ec, .slice (some ⟨eb, h + 1, none⟩) (m - (h + 1)) (ec - (h + 1))]).run Trym.prog w = .ok (.int .i64 (q : Int)) w5 ∧ Chg (· = eb) w w5 ∧ w5.heap[eb]? = some (.cells (arr.toList.take 0 ++ cs ++ arr.toList.drop (0 + cs.length)).toArray 2 (0, 0)) := by
  have hsz : m ≤ arr.size := by
    rcases Nat.lt_or_ge arr.size m with hlt | hge
    · have := ha (m - 1) (by omega)
      rw [Array.getElem?_eq_none (by omega)] at this
      cases this
    · exact hge
  have hrun := run_copy_row (P := Trym.prog) w 35 35 3 2 eb 0 m ec ⟨eb, h + 1, none⟩ (m - (h + 1)) (ec - (h + 1)) arr 2 cs Trym.underlying35 (by kernel_rfl) hb (by rw [hcl, hq]; exact (Nat.min_eq_left (by omega)).symm) (by
      intro j v hj
      rw [hcs, List.getElem?_map] at hj
      rcases Nat.lt_or_ge j q with hjq | hjq
      · rw [List.getElem?_range hjq] at hj
        simp at hj
        subst hj
        have e1 : ((⟨eb, h + 1, none⟩ : Addr).add j) = ⟨eb, h + 1 + j, none⟩ := by simp [Addr.add]
        rw [e1, cell_of_row w _ _ _ _ _ hb]
        exact ha _ (by omega)
      · rw [List.getElem?_eq_none (by simpa using hjq)] at hj
        cases hj) (by omega) (by
      intro v hv
      rw [hcs, List.mem_map] at hv
      obtain ⟨i, _, rfl⟩ := hv
      rfl)
  rw [hcl] at hrun
  refine ⟨_, hrun, ⟨rfl, rfl, rfl, by simp [World.setRow], fun k hk hk2 => setRow_other w eb k _ (by omega)⟩, ?_⟩
  rw [hcl]
  exact setRow_heap w eb _ _ 2 _ hb

set_option maxHeartbeats 1000000 in
theorem clear40 (w : World) (R : Nat) (F : Fl) (v : Int) (hf : w.heap[R]? = some (.cells (recArr F) 70 (0, 0))) :
    Calls Trym.prog 40 #[.pointer (some ⟨R, 0, none⟩), .int .u64 v] w fun e w' => e = .returned (.tuple #[]) ∧ Chg (· = R) w w' ∧ w'.heap[R]? = some (.cells (recArr { F with first := v, ev := .slice none 0 0, head := 0, cv := .slice none 0 0, chunked := 0, fresh := false }) 70 (0, 0)) := by
  obtain ⟨f0, f1, f2, f3, f4, f5, f6, f7, f8, fr⟩ := fieldsCells hf
  have H : Hid (w.heap[R]? = some (.cells (recArr F) 70 (0, 0))) := hf
  clear hf
  go_enter Trym.func40, Trym.ntmps40
  go_wp2
  go_end0
  refine ⟨rfl, ?_, ?_⟩
  · exact Chg.trans (Chg.trans (Chg.trans (Chg.trans (Chg.trans (Chg.setCell w ⟨R, 1, none⟩ _ (by rfl)) (Chg.setCell _ ⟨R, 2, none⟩ _ (by rfl))) (Chg.setCell _ ⟨R, 3, none⟩ _ (by rfl))) (Chg.setCell _ ⟨R, 5, none⟩ _ (by rfl))) (Chg.setCell _ ⟨R, 6, none⟩ _ (by rfl))) (Chg.setCell _ ⟨R, 8, none⟩ _ (by rfl))
  · exact set_fields (F := { F with first := v, ev := .slice none 0 0, head := 0, cv := .slice none 0 0, chunked := 0 }) (set_fields (F := { F with first := v, ev := .slice none 0 0, head := 0, cv := .slice none 0 0 }) (set_fields (F := { F with first := v, ev := .slice none 0 0, head := 0 }) (set_fields (F := { F with first := v, ev := .slice none 0 0 }) (set_fields (F := { F with first := v }) (set_fields H.out 1 _ rfl) 2 _ rfl) 3 _ rfl) 5 _ rfl) 6 _ rfl) 8 _ rfl

set_option maxHeartbeats 1000000 in
theorem count39 (w : World) (R : Nat) (F : Fl) (eb m ec : Nat) (h : Nat) (hm : m ≤ 65536) (hh : h ≤ m) (hev : F.ev = .slice (some ⟨eb, 0, none⟩) m ec) (hhd : F.head = h) (hf : w.heap[R]? = some (.cells (recArr F) 70 (0, 0))) :
    Calls Trym.prog 39 #[.pointer (some ⟨R, 0, none⟩)] w fun e w' => e = .returned (.int .i64 ((m : Int) - (h : Int))) ∧ ∃ n, w' = w.drewN n := by
  obtain ⟨f0, f1, f2, f3, f4, f5, f6, f7, f8, fr⟩ := fieldsCells hf
  rw [hev] at f2
  rw [hhd] at f3
  clear hf
  go_enter Trym.func39, Trym.ntmps39
  go_wp2
  go_quiet (fail)
  go_wp2
  go_ret
  exact ⟨rfl, _, rfl⟩

/-- what pop leaves -/
def PopRes (w w' : World) (R eb : Nat) (F : Fl) (L : List Ck) (m ec h : Nat) (ef : Nat → Int) (U : Int) : Prop :=
  (h + 1 = m ∧ Chg (fun i => i = R ∨ i = eb) w w' ∧ w'.heap[R]? = some (.cells (recArr { F with first := U, ev := .slice none 0 0, head := 0, start := ef h, cv := .slice none 0 0, chunked := 0, fresh := false }) 70 (0, 0))) ∨
  (h + 1 < m ∧ ∃ (k : Nat) (cv' : Value) (m' h' : Nat) (ef' : Nat → Int), Drops (ef h) L k ∧ PopSt w w' R eb { F with first := U, ev := .slice (some ⟨eb, 0, none⟩) m' ec, head := (h' : Int), start := ef h, cv := cv', chunked := wrap64 (F.chunked - wsum (capOf L) k) } (L.drop k) m' ec ef' ∧
    ((m / 2 < h + 1 ∧ m' = m - (h + 1) ∧ h' = 0 ∧ ∀ i, i < m' → ef' i = ef (h + 1 + i)) ∨ (h + 1 ≤ m / 2 ∧ m' = m ∧ h' = h + 1 ∧ ef' = ef)))

set_option maxHeartbeats 4000000 in
set_option maxRecDepth 100000 in
theorem pop38 (w : World) (R : Nat) (F : Fl) (L : List Ck) (eb m ec h : Nat) (ef : Nat → Int) (hm : m ≤ 65536) (hh : h < m) (hev : F.ev = .slice (some ⟨eb, 0, none⟩) m ec) (hhd : F.head = h) (hf : w.heap[R]? = some (.cells (recArr F) 70 (0, 0))) (he : EndsAt w eb m ec ef) (hk : CksAt w F.cv L) (hL : L.length ≤ 5000) (hch : wrap64 F.chunked = F.chunked) :
    Calls Trym.prog 38 #[.pointer (some ⟨R, 0, none⟩)] w fun e w' => e = .returned (.tuple #[]) ∧ PopRes w w' R eb F L m ec h ef (IntKind.u64.wrap (F.first + 1)) := by
  have H0 : Hid (PopSt w w R eb F L m ec ef) := ⟨hf, he, hk, Chg.refl _ _⟩
  have HC : Hid (wrap64 F.chunked = F.chunked) := hch
  obtain ⟨f0, f1, f2, f3, f4, f5, f6, f7, f8, fr⟩ := fieldsCells hf
  rw [hev] at f2
  rw [hhd] at f3
  obtain ⟨arr, hb, ha⟩ := he.row
  have e0 : w.cell? ⟨eb, h, none⟩ = some (.int .i64 (ef h)) := by rw [cell_of_row w _ _ _ _ _ hb]; exact ha h hh
  have z0 : (0 : Int) ≤ (h : Int) := by omega
  have z1 : (h : Int) < (m : Int) := by omega
  have fr4 := fr 4
  clear ha hb he hk f0 f1 f5 f6 f7 f8 fr hf hch
  go_enter Trym.func38, Trym.ntmps38
  go_wp2_with fail
  go_region
  have H1 : Hid (PopSt w (w.setCell ⟨R, 4, none⟩ (.int .i64 (ef h))).drew R eb { F with start := ef h } L m ec ef) := (H0.out.set (F' := { F with start := ef h }) 4 _ rfl rfl).new (Chg.drew _ _)
  clear H0 e0 f2 f3 f4 fr4
  generalize (w.setCell ⟨R, 4, none⟩ (.int .i64 (ef h))).drew = w1 at *
  obtain ⟨f0, f1, f2, f3, f4, f5, f6, f7, f8, fr⟩ := fieldsCells H1.out.fields
  replace f3 : w1.cell? ⟨R, 3, none⟩ = some (.int .i64 (h : Int)) := by rw [f3, hhd]
  clear f0 f2 f4 f5 f6 f7 f8
  go_wp2_with fail
  have H3 : Hid (PopSt w ((w1.setCell ⟨R, 3, none⟩ (.int .i64 ((h : Int) + 1))).setCell ⟨R, 1, none⟩ (.int .u64 (IntKind.u64.wrap (F.first + 1)))) R eb { F with first := IntKind.u64.wrap (F.first + 1), head := (h : Int) + 1, start := ef h } L m ec ef) := (H1.out.set (F' := { F with head := (h : Int) + 1, start := ef h }) 3 _ rfl rfl).set 1 _ rfl rfl
  clear H1 f1 f3 fr
  generalize (w1.setCell ⟨R, 3, none⟩ (.int .i64 ((h : Int) + 1))).setCell ⟨R, 1, none⟩ (.int .u64 (IntKind.u64.wrap (F.first + 1))) = w2 at *
  obtain ⟨d, hd⟩ : ∃ d : Int, d = (m : Int) - ((h + 1 : Nat) : Int) := ⟨_, rfl⟩
  have h39 := count39 w2 R { F with first := IntKind.u64.wrap (F.first + 1), head := (h : Int) + 1, start := ef h } eb m ec (h + 1) hm (by omega) hev (by simp) H3.out.fields
  rw [← hd] at h39
  refine h39.mono ?_
  rintro e w' ⟨rfl, n1, rfl⟩
  have H4 : Hid (PopSt w (w2.drewN n1) R eb { F with first := IntKind.u64.wrap (F.first + 1), head := (h : Int) + 1, start := ef h } L m ec ef) := H3.out.new (chg_drewN _ _ _)
  clear h39 H3
  generalize w2.drewN n1 = w3 at *
  by_cases hlast : h + 1 = m
  · obtain rfl : d = 0 := by omega
    obtain ⟨f0, f1, f2, f3, f4, f5, f6, f7, f8, fr⟩ := fieldsCells H4.out.fields
    clear f0 f2 f3 f4 f5 f6 f7 f8 fr hd
    go_wp2_with fail
    refine (clear40 w3 R _ _ H4.out.fields).mono ?_
    rintro e w5 ⟨rfl, hc5, hf5⟩
    have H5 : Hid (_ ∧ _) := ⟨H4.out.chg.trans (hc5.mono fun i _ e => .inl e), hf5⟩
    clear hc5 hf5 H4
    go_wp2
    refine bodyPost_ret (results_none rfl _ _ _) rfl ?_
    exact ⟨rfl, .inl ⟨hlast, H5.out.1, H5.out.2⟩⟩
  · have hdz : (d == 0) = false := by simp; omega
    have hdz' : ¬ d = 0 := by omega
    obtain ⟨f0, f1, f2, f3, f4, f5, f6, f7, f8, fr⟩ := fieldsCells H4.out.fields
    replace f2 : w3.cell? ⟨R, 2, none⟩ = some (.slice (some ⟨eb, 0, none⟩) m ec) := by rw [f2, hev]
    clear f0 f1 f4 f5 f6 f7 f8 fr hd
    go_wp2_with fail
    go_quiet (fail)
    go_upto_if 49 with (fail)
    have H5 : Hid (PopSt w (w3.drewN nq) R eb { F with first := IntKind.u64.wrap (F.first + 1), head := (h : Int) + 1, start := ef h } L m ec ef) := H4.out.new (chg_drewN _ _ _)
    clear H4 f2 f3
    generalize w3.drewN nq = w4 at *
    obtain ⟨f0, f1, f2, f3, f4, f5, f6, f7, f8, fr⟩ := fieldsCells H5.out.fields
    replace f2 : w4.cell? ⟨R, 2, none⟩ = some (.slice (some ⟨eb, 0, none⟩) m ec) := by rw [f2, hev]
    have fr2 := fr 2
    have fr3 := fr 3
    clear f0 f1 f4 f5 f6 f7 f8 fr
    go_cut [] (fun wx => ∃ m' h' ef', PopSt w wx R eb { F with first := IntKind.u64.wrap (F.first + 1), ev := .slice (some ⟨eb, 0, none⟩) m' ec, head := ((h' : Nat) : Int), start := ef h } L m' ec ef' ∧ ((m / 2 < h + 1 ∧ m' = m - (h + 1) ∧ h' = 0 ∧ ∀ i, i < m' → ef' i = ef (h + 1 + i)) ∨ (h + 1 ≤ m / 2 ∧ m' = m ∧ h' = h + 1 ∧ ef' = ef)))
    case first =>
      by_cases hhalf : m / 2 < h + 1
      · have hx1 : (m : Int) / 2 < (h : Int) + 1 := by omega
        have hx2 : decide ((m : Int) / 2 < (h : Int) + 1) = true := decide_eq_true hx1
        obtain ⟨a5, hb5, ha5⟩ := H5.out.ends.row
        have hcap := H5.out.ends.cap
        obtain ⟨q, hq⟩ : ∃ q, q = m - (h + 1) := ⟨_, rfl⟩
        obtain ⟨cs, hcs⟩ : ∃ cs : List Value, cs = (List.range q).map (i6 (fun i => ef (h + 1 + i))) := ⟨_, rfl⟩
        have hcl : cs.length = q := by rw [hcs]; simp
        have HQ : Hid (q = m - (h + 1) ∧ cs = (List.range q).map (i6 (fun i => ef (h + 1 + i))) ∧ w4.heap[eb]? = some (.cells a5 2 (0, 0)) ∧ m ≤ ec ∧ (∀ i, i < m → a5[i]? = some (.int .i64 (ef i))) ∧ m ≤ a5.size ∧ cs.length = q) := ⟨hq, hcs, hb5, hcap, ha5, by
          rcases Nat.lt_or_ge a5.size m with hlt | hge
          · have := ha5 (m - 1) (by omega)
            rw [Array.getElem?_eq_none (by omega)] at this
            cases this
          · exact hge, hcl⟩
        have y1 : (0 : Int) ≤ (h : Int) + 1 := by omega
        have y2 : (h : Int) + 1 ≤ (m : Int) := by omega
        have y3 : ¬ ec = h + 1 := by omega
        have y4 : ((h : Int) + 1).toNat = h + 1 := by omega
        have y5 : ¬ ec = 0 := by omega
        have y6 : (q : Int) ≤ (ec : Int) := by omega
        obtain ⟨w5, hrun, hc5, hb6⟩ := copy_down w4.drew eb m ec h q ef a5 cs hb5 (by omega) hq hcs hcl hcap (fun i hi => ha5 i hi)
        have u2 := hc5.cell (show w4.drew.cell? ⟨R, 2, none⟩ = _ from f2) (fun e => H5.out.ne e.symm)
        have u3 := hc5.cell (show w4.drew.cell? ⟨R, 3, none⟩ = _ from f3) (fun e => H5.out.ne e.symm)
        have H6 : Hid (PopSt w w5 R eb { F with first := IntKind.u64.wrap (F.first + 1), head := (h : Int) + 1, start := ef h } L q ec (fun i => ef (h + 1 + i))) := (H5.out.new (Chg.drew _ w4)).copied hc5 hb6 hcs (by omega)
        have v2 : w5.frozen? ⟨R, 2, none⟩ = false := frozen_of_row w5 _ 2 _ _ H6.out.fields
        have v3 : w5.frozen? ⟨R, 3, none⟩ = false := frozen_of_row w5 _ 3 _ _ H6.out.fields
        clear hc5 hb6
        clear hb5 ha5 hcap hq hcs hcl
        go_wp2_with fail
        go_region
        have H7 : Hid (PopSt w (w5.setCell ⟨R, 2, none⟩ (.slice (some ⟨eb, 0, none⟩) q ec)) R eb { F with first := IntKind.u64.wrap (F.first + 1), ev := .slice (some ⟨eb, 0, none⟩) q ec, head := (h : Int) + 1, start := ef h } L q ec (fun i => ef (h + 1 + i))) := H6.out.set 2 _ rfl rfl
        clear H5 H6 hrun
        go_wp2
        go_meet
        case rel => exact ⟨q, 0, fun i => ef (h + 1 + i), H7.out.set 3 _ rfl rfl, .inl ⟨hhalf, HQ.out.1, rfl, fun i _ => rfl⟩⟩
      · have hx1 : ¬ (m : Int) / 2 < (h : Int) + 1 := by omega
        have hx2 : decide ((m : Int) / 2 < (h : Int) + 1) = false := decide_eq_false hx1
        go_wp2
        go_meet
        case rel => exact ⟨m, h + 1, ef, by have := H5.out; rw [← hev]; exact this, .inr ⟨by omega, rfl, rfl, rfl⟩⟩
    case rest =>
      obtain ⟨m', h', ef', hP, hcase⟩ := hcut
      have HK : Hid ((m / 2 < h + 1 ∧ m' = m - (h + 1) ∧ h' = 0 ∧ ∀ i, i < m' → ef' i = ef (h + 1 + i)) ∨ (h + 1 ≤ m / 2 ∧ m' = m ∧ h' = h + 1 ∧ ef' = ef)) := hcase
      have H8 : Hid (PopSt w wc R eb { F with first := IntKind.u64.wrap (F.first + 1), ev := .slice (some ⟨eb, 0, none⟩) m' ec, head := ((h' : Nat) : Int), start := ef h } L m' ec ef') := hP
      clear hP hcase H5 f2 f3 fr2 fr3
      go_wp2_with fail
      go_loopw [2] (fun i wr => ∃ k : Nat, k ≤ L.length ∧ i = .int .i64 k ∧ (∀ j c, j < k → L[j]? = some c → wrap64 (c.at_ + c.cp) ≤ ef h) ∧ PopSt w wr R eb { F with first := IntKind.u64.wrap (F.first + 1), ev := .slice (some ⟨eb, 0, none⟩) m' ec, head := ((h' : Nat) : Int), start := ef h, chunked := wrap64 (F.chunked - wsum (capOf L) k) } L m' ec ef') (fun i _ => L.length - (intOf i).toNat)
      case atStart => exact ⟨0, Nat.zero_le _, rfl, fun j c hj => by omega, by have := H8.out; simp only [wsum, Int.sub_zero, HC.out]; exact this⟩
      case round =>
        obtain ⟨k, hk, rfl, hgo, hP⟩ := hrel
        have HP : Hid (PopSt w wr R eb { F with first := IntKind.u64.wrap (F.first + 1), ev := .slice (some ⟨eb, 0, none⟩) m' ec, head := ((h' : Nat) : Int), start := ef h, chunked := wrap64 (F.chunked - wsum (capOf L) k) } L m' ec ef') := hP
        have HGo : Hid (∀ j c, j < k → L[j]? = some c → wrap64 (c.at_ + c.cp) ≤ ef h) := hgo
        obtain ⟨co, cq, ecv, hle, hv⟩ := hP.cks.view
        replace ecv : F.cv = .slice co L.length cq := ecv
        obtain ⟨f0, f1, f2, f3, f4, f5, f6, f7, f8, fr⟩ := fieldsCells hP.fields
        replace f5 : wr.cell? ⟨R, 5, none⟩ = some (.slice co L.length cq) := by rw [f5, ecv]
        have fr5 := fr 5
        have fr6 := fr 6
        clear f0 f1 f2 f3 f7 f8 fr hP hgo H8
        have z2 : (0 : Int) ≤ (k : Int) := by omega
        by_cases hlt : k < L.length
        · obtain ⟨c, hc⟩ : ∃ c, L[k]? = some c := ⟨_, List.getElem?_eq_getElem hlt⟩
          obtain ⟨g, off, garr, rfl, hg, g0, g1⟩ := hv k c hc
          have c0 : wr.cell? ⟨g, off + k * 2, none⟩ = some (.int .i64 c.at_) := by rw [cell_of_row wr _ _ _ _ _ hg]; exact g0
          have c1 : wr.cell? ⟨g, off + k * 2 + 1, none⟩ = some (.slice (some ⟨c.blk, 0, none⟩) c.n c.cp) := by rw [cell_of_row wr _ _ _ _ _ hg]; exact g1
          have z3 : (k : Int) < (L.length : Int) := by omega
          have z4 : decide ((k : Int) < (L.length : Int)) = true := decide_eq_true z3
          have hgR : ¬ g = R := by intro e; have := HP.out.fields; rw [← e, hg] at this; simp at this
          clear hg g0 g1 hv
          by_cases hcond : wrap64 (c.at_ + c.cp) ≤ ef h
          · have z5 : decide (wrap64 (c.at_ + c.cp) ≤ ef h) = true := decide_eq_true hcond
            go_wp2_with fail
            go_quiet (fail)
            have HP2 : Hid (PopSt w (wr.drewN nq) R eb { F with first := IntKind.u64.wrap (F.first + 1), ev := .slice (some ⟨eb, 0, none⟩) m' ec, head := ((h' : Nat) : Int), start := ef h, chunked := wrap64 (F.chunked - wsum (capOf L) k) } L m' ec ef' ∧ L[k]? = some c) := ⟨HP.out.new (chg_drewN _ _ _), hc⟩
            replace c0 : (wr.drewN nq).cell? ⟨g, off + k * 2, none⟩ = some (.int .i64 c.at_) := c0
            replace c1 : (wr.drewN nq).cell? ⟨g, off + k * 2 + 1, none⟩ = some (.slice (some ⟨c.blk, 0, none⟩) c.n c.cp) := c1
            replace f5 : (wr.drewN nq).cell? ⟨R, 5, none⟩ = _ := f5
            replace f6 : (wr.drewN nq).cell? ⟨R, 6, none⟩ = _ := f6
            replace fr6 : (wr.drewN nq).frozen? ⟨R, 6, none⟩ = _ := fr6
            clear HP hc f4 fr5
            generalize wr.drewN nq = wq at *
            go_wp2_with fail
            go_region
            have HP3 : Hid (PopSt w (wq.setCell ⟨R, 6, none⟩ (.int .i64 (wrap64 (wrap64 (F.chunked - wsum (capOf L) k) - (c.cp : Int))))).drew R eb { F with first := IntKind.u64.wrap (F.first + 1), ev := .slice (some ⟨eb, 0, none⟩) m' ec, head := ((h' : Nat) : Int), start := ef h, chunked := wrap64 (F.chunked - wsum (capOf L) (k + 1)) } L m' ec ef') := by
              refine (HP2.out.1.set (F' := { F with first := IntKind.u64.wrap (F.first + 1), ev := .slice (some ⟨eb, 0, none⟩) m' ec, head := ((h' : Nat) : Int), start := ef h, chunked := wrap64 (F.chunked - wsum (capOf L) (k + 1)) }) 6 _ ?_ rfl).new (Chg.drew _ _)
              have e1 : wrap64 (wrap64 (F.chunked - wsum (capOf L) k) - (c.cp : Int)) = wrap64 (F.chunked - wsum (capOf L) (k + 1)) := by
                have e2 : capOf L k = (c.cp : Int) := by unfold capOf; rw [HP2.out.2]
                rw [wsum, e2]
                unfold wrap64
                omega
              rw [e1]
              rfl
            have HG2 : Hid (∀ j d, j < k + 1 → L[j]? = some d → wrap64 (d.at_ + d.cp) ≤ ef h) := by
              intro j d hj hd'
              rcases Nat.lt_or_ge j k with hjk | hjk
              · exact HGo.out j d hjk hd'
              · obtain rfl : j = k := by omega
                rw [HP2.out.2] at hd'
                obtain rfl := Option.some.inj hd'
                exact hcond
            clear HP2 c0 c1 f5 f6 fr6
            go_wp2
            go_roundw
            case rel => exact ⟨k + 1, by omega, by go_num, HG2.out, HP3.out⟩
            case measure => simp [intOf]; omega
          · have z5 : decide (wrap64 (c.at_ + c.cp) ≤ ef h) = false := decide_eq_false hcond
            have hcq : ¬ cq = k := by omega
            have HE : Hid (F.cv = .slice (some ⟨g, off, none⟩) L.length cq ∧ L[k]? = some c) := ⟨ecv, hc⟩
            clear hc ecv
            go_wp2_with fail
            go_quiet (fail)
            go_wp2_with fail
            go_end0
            refine ⟨rfl, .inr ⟨by omega, k, _, m', h', ef', ⟨hk, HGo.out, ?_⟩, (HP.out.new (chg_drewN _ _ _)).fin HE.out.1 hk _ (by rw [if_neg hcq]; simp [Addr.add]), HK.out⟩⟩
            intro c' hc'
            rw [HE.out.2] at hc'
            obtain rfl := Option.some.inj hc'
            exact Int.not_le.mpr hcond
        · have z4 : decide ((k : Int) < (L.length : Int)) = false := decide_eq_false (by omega)
          have HE : Hid (F.cv = .slice co L.length cq) := ecv
          clear ecv hv
          by_cases hcq : cq = k
          · go_wp2_with fail
            go_quiet (fail)
            go_wp2_with fail
            go_end0
            refine ⟨rfl, .inr ⟨by omega, k, _, m', h', ef', ⟨hk, HGo.out, ?_⟩, (HP.out.new (chg_drewN _ _ _)).fin HE.out hk _ (by rw [if_pos hcq]; simp [hcq]), HK.out⟩⟩
            intro c' hc'
            rw [List.getElem?_eq_none (by omega)] at hc'
            cases hc'
          · go_wp2_with fail
            go_quiet (fail)
            go_wp2_with fail
            go_end0
            refine ⟨rfl, .inr ⟨by omega, k, _, m', h', ef', ⟨hk, HGo.out, ?_⟩, (HP.out.new (chg_drewN _ _ _)).fin HE.out hk _ (by rw [if_neg hcq]), HK.out⟩⟩
            intro c' hc'
            rw [List.getElem?_eq_none (by omega)] at hc'
            cases hc'
end Go.Proofs.Qxb6603459aMods
