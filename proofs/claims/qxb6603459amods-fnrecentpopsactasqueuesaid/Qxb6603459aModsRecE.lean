import Derived.Test.Qxb6603459aModsRecD
namespace Go.Proofs.Qxb6603459aMods
open Go.RowKit Go.MapFns

theorem Trym.info72 : (Trym.prog.info? 72).map (fun i => (i.zero, i.size, i.bytes)) = some (some (.agg #[.int .i64 0, .slice none 0 0]), 2, 32) := by kernel_rfl
attribute [local go_sem] mk37

/-- behind make and copy -/
structure AddA (w : World) (B R : Nat) (F : Fl) (L : List Ck) (bs : Nat → Int) (bl cap : Nat) (w2 : World) : Prop where
  rep : RecRep w B R F L
  chg : Chg (fun _ => False) w w2
  size : w2.heap.size = w.heap.size + 1
  buf : ∃ arr, w2.heap[w.heap.size]? = some (.cells arr 5 (0, 0)) ∧ arr.size = cap ∧ ∀ i, i < bl → arr[i]? = some (.int .u8 (bs i))
theorem AddA.mk' {w w2 : World} {B R : Nat} {F : Fl} {L : List Ck} {bs : Nat → Int} {bl cap : Nat} (h : RecRep w B R F L) {o : Obj} (hc : Chg (· = w.heap.size) (w.alloc o) w2) (hs : w2.heap.size = w.heap.size + 1)
    (hb : ∃ arr, w2.heap[w.heap.size]? = some (.cells arr 5 (0, 0)) ∧ arr.size = cap ∧ (∀ i, i < bl → arr[i]? = some (byt bs i)) ∧ ∀ i, bl ≤ i → arr[i]? = (Array.replicate cap (Value.int .u8 0))[i]?) : AddA w B R F L bs bl cap w2 := by
  obtain ⟨arr, b1, b2, b3, _⟩ := hb
  exact ⟨h, (Chg.alloc (fun _ => False) w o).into hc (fun i hi => by omega), hs, arr, b1, b2, b3⟩
theorem AddA.cR {w w2 : World} {B R : Nat} {F : Fl} {L : List Ck} {bs : Nat → Int} {bl cap : Nat} (h : AddA w B R F L bs bl cap w2) : w2.cell? ⟨R, 5, none⟩ = some F.cv :=
  cell_of_row w2 _ 5 _ _ _ (h.chg.blk h.rep.fields (by simp))
theorem AddA.own {w w2 : World} {B R : Nat} {F : Fl} {L : List Ck} {bs : Nat → Int} {bl cap : Nat} (h : AddA w B R F L bs bl cap w2) (o : Obj) : (w2.alloc o).ownsRow B 72 2 F.cv L.length (ckAll L) :=
  owns_chg h.rep.row (h.chg.trans (Chg.alloc _ _ _)) (by simp)
theorem AddA.news {w w2 : World} {B R : Nat} {F : Fl} {L : List Ck} {bs : Nat → Int} {bl cap : Nat} (h : AddA w B R F L bs bl cap w2) (u v : Value) : ∀ j x, [u, v][j]? = some x → (w2.alloc (.cells #[u, v] 72)).cell? ((⟨w.heap.size + 1, 0, none⟩ : Addr).add j) = some x := by
  have := heap_alloc_new w2 (.cells #[u, v] 72)
  rw [h.size] at this
  exact World.news_of_block this
theorem AddA.grown {w w2 w3 : World} {B R : Nat} {F : Fl} {L : List Ck} {bs : Nat → Int} {bl cap : Nat} (h : AddA w B R F L bs bl cap w2) {o : Obj} (hg : (w2.alloc o).grownBy w3 F.cv.ownBlock) :
    w3.heap[R]? = some (.cells (recArr F) 70 (0, 0)) ∧ Chg (fun b => F.cv.ownBlock = some b) w w3 := by
  have hc := (h.chg.trans (Chg.alloc (fun _ => False) w2 o)).new.trans (grown_chg hg)
  refine ⟨hc.blk h.rep.fields ?_, hc⟩
  intro e
  obtain ⟨c, hc⟩ := owns_blk h.rep.row e
  rw [h.rep.fields] at hc
  simp at hc

theorem AddA.fin {w w2 w3 : World} {B R : Nat} {F : Fl} {L : List Ck} {bs : Nat → Int} {bl cap : Nat} (h : AddA w B R F L bs bl cap w2) (hB : B ≤ w.heap.size) (hle : bl ≤ cap) {at_ : Int} {g cq : Nat} {o : Obj}
    (hown : w3.ownsRow B 72 2 (.slice (some ⟨g, 0, none⟩) (L.length + 1) cq) (L.length + 1) (ckAll L ++ [.int .i64 at_, .slice (some ⟨w.heap.size, 0, none⟩) bl cap])) (hg : (w2.alloc o).grownBy w3 F.cv.ownBlock) :
    RecRep (w3.setCell ⟨R, 5, none⟩ (.slice (some ⟨g, 0, none⟩) (L.length + 1) cq)) B R { F with cv := .slice (some ⟨g, 0, none⟩) (L.length + 1) cq } (L ++ [⟨at_, bs, bl, cap, w.heap.size⟩]) ∧
      Below B w (w3.setCell ⟨R, 5, none⟩ (.slice (some ⟨g, 0, none⟩) (L.length + 1) cq)) := by
  obtain ⟨hR3, hc⟩ := h.grown hg
  have hcR : Chg (· = R) w3 (w3.setCell ⟨R, 5, none⟩ (.slice (some ⟨g, 0, none⟩) (L.length + 1) cq)) := Chg.setCell _ _ _ rfl
  obtain ⟨cg, hcg⟩ := owns_blk hown (k := g) rfl
  have hgR : g ≠ R := by intro e; rw [e, hR3] at hcg; simp at hcg
  have hbufR : ∀ (b : Nat) (a : Array Value), w3.heap[b]? = some (.cells a 5 (0, 0)) → b ≠ R := by
    intro b a hb e; rw [e, hR3] at hb; simp at hb
  refine ⟨⟨h.rep.base, ?_, ?_, ?_, ?_⟩, (hc.below hB (fun i hi => owns_base h.rep.row hi)).trans (hcR.below (Nat.le_trans hB hc.size) (fun i hi => by have := h.rep.base; omega))⟩
  · exact heap_setCell_same w3 R 5 _ 70 _ hR3
  · have e1 : (L ++ [(⟨at_, bs, bl, cap, w.heap.size⟩ : Ck)]).length = L.length + 1 := by simp
    have e2 : ckAll (L ++ [(⟨at_, bs, bl, cap, w.heap.size⟩ : Ck)]) = ckAll L ++ [.int .i64 at_, .slice (some ⟨w.heap.size, 0, none⟩) bl cap] := by simp [ckAll, ckCells]
    rw [e1, e2]
    exact owns_chg hown hcR (fun k hk => by simp [Value.ownBlock] at hk; omega)
  · intro c hcm
    rcases List.mem_append.1 hcm with hm | hm
    · obtain ⟨b1, b2⟩ := h.rep.bufs c hm
      have b3 : BufAt w3 c := b2.chg hc (fun e => by
        obtain ⟨cc, hcc⟩ := owns_blk h.rep.row e
        obtain ⟨a, ha, _⟩ := b2
        rw [ha] at hcc; simp at hcc)
      have b4 := b3
      obtain ⟨a, ha, _⟩ := b4
      exact ⟨b1, b3.chg hcR (hbufR _ _ ha)⟩
    · simp at hm
      subst hm
      obtain ⟨arr, a1, a2, a3⟩ := h.buf
      have b3 : w3.heap[w.heap.size]? = some (.cells arr 5 (0, 0)) := by
        refine (grown_chg hg).blk ((Chg.alloc (fun _ => False) w2 o).blk a1 (by simp)) ?_
        intro e
        obtain ⟨cc, hcc⟩ := owns_blk h.rep.row e
        have := blk_lt hcc
        omega
      exact ⟨hB, arr, hcR.blk b3 (hbufR _ _ b3), a2, hle, a3⟩
  · rw [List.map_append, List.nodup_append]
    refine ⟨h.rep.nodup, by simp, ?_⟩
    intro x hx y hy e
    obtain ⟨c, hcm, rfl⟩ := List.mem_map.1 hx
    simp at hy
    obtain ⟨_, a, ha, _⟩ := h.rep.bufs c hcm
    have := blk_lt ha
    omega

set_option maxHeartbeats 1000000 in
theorem add36 (w : World) (B R : Nat) (F : Fl) (L : List Ck) (h : RecRep w B R F L) (hB : B ≤ w.heap.size) (at_ : Int) (bo : Option Addr) (bl bc : Nat) (bs : Nat → Int) (hbs : ElemsIn w bo bl (byt bs)) (cap : Nat) (h1 : bl ≤ cap) (h2 : cap ≤ 65536) (hL : L.length ≤ 100000) :
    Calls Trym.prog 36 #[.pointer (some ⟨R, 0, none⟩), .int .i64 at_, .slice bo bl bc, .int .i64 cap] w fun e w' => e = .returned (.tuple #[]) ∧ ∃ cv', RecRep w' B R { F with cv := cv' } (L ++ [⟨at_, bs, bl, cap, w.heap.size⟩]) ∧ Below B w w' := by
  have h3 : cap ≤ 1048576 := by omega
  obtain ⟨i0, hi, hz0, hz1, hz2⟩ := info_parts Trym.info72
  have cR : w.cell? ⟨R, 5, none⟩ = some F.cv := cell_of_row w _ 5 _ _ _ h.fields
  have HR : Hid (RecRep w B R F L ∧ ElemsIn w bo bl (byt bs)) := ⟨h, hbs⟩
  clear h hbs
  go_enter Trym.func36, Trym.ntmps36
  go_wp2_with (first
    | (guard_target =~ wpList _ _ _ (⟨_, Op.call ⟨Callee.builtin Builtin.copy, _, _⟩, _, _, _, _⟩ :: _) _ _; refine wpList_copy_to (by rfl) _ _ 37 37 (by rfl) 5 Trym.underlying37 (by kernel_rfl) w.heap.size bl cap bl bc bo (by rfl) (by rfl) (Nat.le_refl _) _ 5 (heap_alloc_new _ _) (byt bs) (HR.out.2.chg (Chg.alloc (fun _ => False) _ _) (by simp)) (fun _ => rfl) (by simp; omega) ?_; intro w2 hc2 hs2 hb2; have hA : AddA w B R F L bs bl cap w2 := AddA.mk' HR.out.1 hc2 (by simpa using hs2) (by simpa using hb2); have c2 : w2.cell? ⟨R, 5, none⟩ = some F.cv := hA.cR; have s2 : w2.heap.size = w.heap.size + 1 := hA.size; have HA : Hid (AddA w B R F L bs bl cap w2) := hA; clear hA hb2 hc2 hs2)
    | (guard_target =~ wpList _ _ _ (⟨_, Op.call ⟨Callee.builtin Builtin.append, _, _⟩, _, _, _, _⟩ :: _) _ _; refine wpList_append_lies _ (by rfl) _ _ 68 (by rfl) B 72 i0 _ 2 32 Trym.underlying68 hi hz0 hz1 hz2 (by rfl) (by decide) F.cv L.length (ckAll L) (by rfl) (HA.out.own _) ⟨w.heap.size + 1, 0, none⟩ 1 1 [.int .i64 at_, .slice (some ⟨w.heap.size, 0, none⟩) bl cap] (by rfl) (by rfl) (HA.out.news _ _) (by simp; exact ⟨rfl, rfl⟩) (by decide) (by unfold maxLen; omega) (by omega) (by simp; omega) (w.heap.size + 1 + 1) (by simp [s2]) ?_; intro g cq w3 hown3 hgr3 hat3 hlt3; have hC := HA.out.grown hgr3; have c3 : w3.cell? ⟨R, 5, none⟩ = some F.cv := cell_of_row w3 _ 5 _ _ _ hC.1; have f3 : w3.frozen? ⟨R, 5, none⟩ = false := frozen_of_row w3 _ 5 _ _ hC.1; have HC : Hid (_ ∧ _ ∧ _ ∧ _) := ⟨hown3, hgr3, hat3, hlt3⟩; clear hown3 hgr3 hat3 hlt3 hC))
  go_end0
  exact ⟨rfl, _, HA.out.fin hB h1 HC.out.1 HC.out.2.1⟩
end Go.Proofs.Qxb6603459aMods
