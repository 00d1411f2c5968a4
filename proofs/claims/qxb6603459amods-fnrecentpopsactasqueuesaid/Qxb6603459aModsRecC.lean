import Derived.Test.Qxb6603459aModsRecB
import Derived.Deep.RegionHeld3
namespace Go.Proofs.Qxb6603459aMods
open Go.RowKit Go.MapFns

/-- the clone's row so far -/
structure ClC (w wr : World) (n k : Nat) (K : CkIn) (arr : Array Value) (ba : Nat → Option Addr) : Prop where
  blk : wr.heap[w.heap.size]? = some (.cells arr 51 (0, 0))
  size : arr.size = n * 3
  chg : Chg (fun _ => False) w wr
  cells : ∀ i, i < k → arr[i * 3]? = some (.int .i64 (K.at_ i)) ∧ arr[i * 3 + 1]? = some (.slice (ba i) (K.bl i) (K.bl i)) ∧ arr[i * 3 + 2]? = some (.int .i64 (K.cp i)) ∧ ElemsIn wr (ba i) (K.bl i) (byt (K.bs i)) ∧
    (ba i = none ∧ K.ba i = none ∧ K.bl i = 0 ∨ ∃ g, ba i = some ⟨g, 0, none⟩ ∧ w.heap.size < g ∧ (K.ba i).isNone = false)

theorem ClC.room {w wr w4 : World} {n k : Nat} {K : CkIn} {arr : Array Value} {ba : Nat → Option Addr} (h : ClC w wr n k K arr ba) (hk : k < n) (hc : Chg (fun _ => False) wr w4) :
    ∃ v0 v1 v2, w4.cell? ⟨w.heap.size, k * 3, none⟩ = some v0 ∧ w4.cell? ⟨w.heap.size, k * 3 + 1, none⟩ = some v1 ∧ w4.cell? ⟨w.heap.size, k * 3 + 2, none⟩ = some v2 ∧
      w4.frozen? ⟨w.heap.size, k * 3, none⟩ = false ∧ w4.frozen? ⟨w.heap.size, k * 3 + 1, none⟩ = false ∧ w4.frozen? ⟨w.heap.size, k * 3 + 2, none⟩ = false := by
  have hb := hc.blk h.blk (by simp)
  have hs := h.size
  refine ⟨arr[k * 3]'(by omega), arr[k * 3 + 1]'(by omega), arr[k * 3 + 2]'(by omega), ?_, ?_, ?_, frozen_of_row _ _ _ _ _ hb, frozen_of_row _ _ _ _ _ hb, frozen_of_row _ _ _ _ _ hb⟩ <;>
    rw [cell_of_row _ _ _ _ _ _ hb, Array.getElem?_eq_getElem (by omega)]

theorem ClC.step {w wr w4 : World} {n k : Nat} {K : CkIn} {arr : Array Value} {ba : Nat → Option Addr} (h : ClC w wr n k K arr ba) (hk : k < n) {o : Option Addr} (hcl : Cl wr.drew w4 o (K.ba k) (K.bl k) 5 (byt (K.bs k))) :
    ClC w (((w4.setCell ⟨w.heap.size, k * 3, none⟩ (.int .i64 (K.at_ k))).setCell ⟨w.heap.size, k * 3 + 1, none⟩ (.slice o (K.bl k) (K.bl k))).setCell ⟨w.heap.size, k * 3 + 2, none⟩ (.int .i64 (K.cp k))) n (k + 1) K
      (lay arr (k * 3) [.int .i64 (K.at_ k), .slice o (K.bl k) (K.bl k), .int .i64 (K.cp k)]) (fun i => if i = k then o else ba i) := by
  have hc4 : Chg (fun _ => False) wr w4 := (Chg.drew _ wr).trans hcl.chg
  have hb := hc4.blk h.blk (by simp)
  have hs := h.size
  have hwr : w.heap.size < wr.heap.size := blk_lt h.blk
  have hcs : Chg (· = w.heap.size) w4 (w4.setCells w.heap.size (k * 3) [.int .i64 (K.at_ k), .slice o (K.bl k) (K.bl k), .int .i64 (K.cp k)]) := Chg.setCells (S := (· = w.heap.size)) _ rfl _ _ _
  have goal : ClC w (w4.setCells w.heap.size (k * 3) [.int .i64 (K.at_ k), .slice o (K.bl k) (K.bl k), .int .i64 (K.cp k)]) n (k + 1) K
      (lay arr (k * 3) [.int .i64 (K.at_ k), .slice o (K.bl k) (K.bl k), .int .i64 (K.cp k)]) (fun i => if i = k then o else ba i) := by
    refine ⟨heap_setCells _ _ _ _ _ _ hb, by rw [size_lay]; exact hs, (h.chg.trans hc4).into hcs (fun i hi => by omega), ?_⟩
    intro i hi
    by_cases e : i = k
    · subst e
      have g := lay_in [.int .i64 (K.at_ i), .slice o (K.bl i) (K.bl i), .int .i64 (K.cp i)] arr (i * 3)
      simp only [if_true]
      refine ⟨g 0 (by simp; omega) (by simp), g 1 (by simp; omega) (by simp), g 2 (by simp; omega) (by simp), ?_, ?_⟩
      · refine hcl.elems.chg hcs ?_
        intro b off e1 e2
        rcases hcl with ⟨_, rfl, _, _⟩ | ⟨_, rfl, _⟩
        · cases e1
        · simp at e1 <;> omega
      · rcases hcl with ⟨h1, rfl, h2, _⟩ | ⟨h1, rfl, _⟩
        · exact .inl ⟨rfl, h1, h2⟩
        · exact .inr ⟨_, rfl, hwr, h1⟩
    · obtain ⟨a1, a2, a3, a4, a5⟩ := h.cells i (by omega)
      simp only [e, if_false]
      rw [lay_out _ _ _ _ (by left; omega), lay_out _ _ _ _ (by left; omega), lay_out _ _ _ _ (by left; omega)]
      refine ⟨a1, a2, a3, ?_, a5⟩
      refine (a4.chg hc4 (by simp)).chg hcs ?_
      intro b off e1 e2
      rcases a5 with ⟨h1, _⟩ | ⟨g, h1, h2, _⟩
      · rw [h1] at e1; cases e1
      · rw [h1] at e1; simp at e1 <;> omega
  exact goal

attribute [local go_sem] eqnil36
set_option maxHeartbeats 1000000 in
theorem clone18 (ao : Option Addr) (n c : Nat) (K : CkIn) (w : World) (hn : n ≤ 4096) (ha : ao.isNone = false) (hc : ChunksIn w ao n K) (hb : ∀ i, i < n → K.bl i ≤ 65536) :
    Calls Trym.prog 18 #[.slice ao n c] w fun e w' => e = .returned (.slice (some ⟨w.heap.size, 0, none⟩) n n) ∧ ∃ arr ba, ClC w w' n n K arr ba := by
  obtain ⟨arr0, hz0, hmk⟩ := mk36 w n hn
  go_enter Trym.func18, Trym.ntmps18
  go_wp2_with fail
  go_loopw [4] (fun i wr => ∃ k : Nat, k ≤ n ∧ i = .int .i64 k ∧ ∃ arr ba, ClC w wr n k K arr ba) (fun i _ => n - (intOf i).toNat)
  case atStart => exact ⟨0, Nat.zero_le _, rfl, arr0, fun _ => none, heap_alloc_new _ _, hz0, Chg.alloc _ _ _, fun i h => by omega⟩
  case round =>
    obtain ⟨k, hk, rfl, arr, ba, hR⟩ := hrel
    by_cases hlt : k < n
    · obtain ⟨b, off, rfl, c0, c1, c2, he, _, hnil⟩ := hc k hlt
      have d0 := hR.chg.cell c0 (by simp)
      have d1 := hR.chg.cell c1 (by simp)
      have d2 := hR.chg.cell c2 (by simp)
      have he2 := he.chg hR.chg (by simp)
      have hne : ¬ w.heap.size = b := by have := block_lt_of_cell c0; simp at this; omega
      have hne' : ¬ b = w.heap.size := fun e => hne e.symm
      have HR : Hid (ClC w wr n k K arr ba) := hR
      have kk : (0 : Int) ≤ (k : Int) := by omega
      have kn : (k : Int) < (n : Int) := by omega
      have h19 := bytes19 (K.ba k) (K.bl k) (K.bc k) (K.bs k) wr.drew (by have := hb k hlt; omega) (fun h => (hnil h).1) he2
      have H19 : Hid (Calls _ _ _ _ _) := h19
      clear hR hc ha hmk c0 c1 c2 he he2 h19 hnil hb
      go_wp2_with fail
      go_region_held3 (fun w' => w'.cell? ⟨b, off + k * 3, none⟩ = some (.int .i64 (K.at_ k)) ∧ w'.cell? ⟨b, off + k * 3 + 1, none⟩ = some (.slice (K.ba k) (K.bl k) (K.bc k)) ∧ w'.cell? ⟨b, off + k * 3 + 2, none⟩ = some (.int .i64 (K.cp k))) (go_keep)
        ((go_at_call 19; refine H19.out.mono ?_; rintro e w4 ⟨o, rfl, hcl⟩; have e0 := hcl.chg.cell (show wr.drew.cell? ⟨b, off + k * 3, none⟩ = _ from d0) (by simp); have e1 := hcl.chg.cell (show wr.drew.cell? ⟨b, off + k * 3 + 1, none⟩ = _ from d1) (by simp); have e2 := hcl.chg.cell (show wr.drew.cell? ⟨b, off + k * 3 + 2, none⟩ = _ from d2) (by simp); obtain ⟨v0, v1, v2, t0, t1, t2, f0, f1, f2⟩ := HR.out.room hlt ((Chg.drew _ wr).trans hcl.chg); have HC : Hid (Cl wr.drew w4 o (K.ba k) (K.bl k) 5 (byt (K.bs k))) := hcl; clear hcl))
      go_wp2
      go_roundw
      case rel => exact ⟨k + 1, by omega, by go_num, _, _, HR.out.step hlt HC.out⟩
      case measure => simp [intOf]; omega
    · go_wp2
      go_ret
      have : k = n := by omega
      subst this
      exact ⟨rfl, arr, ba, hR⟩

set_option maxHeartbeats 400000 in
theorem clone18_nil (n c : Nat) (w : World) : Calls Trym.prog 18 #[.slice none n c] w fun e w' => e = .returned (.slice none 0 0) ∧ w' = w := by
  go_enter Trym.func18, Trym.ntmps18
  go_wp2
  go_ret
  exact ⟨rfl, rfl⟩

/-- the same chunks, elsewhere -/
structure CkSame (K K' : CkIn) (n : Nat) : Prop where
  at_ : K'.at_ = K.at_
  bl : K'.bl = K.bl
  bs : K'.bs = K.bs
  cp : K'.cp = K.cp
  nil : ∀ i, i < n → (K'.ba i).isNone = (K.ba i).isNone

theorem chunks18 (ao : Option Addr) (n c : Nat) (K : CkIn) (w : World) (hn : n ≤ 4096) (hz : ao = none → n = 0) (hc : ChunksIn w ao n K) (hb : ∀ i, i < n → K.bl i ≤ 65536) :
    Calls Trym.prog 18 #[.slice ao n c] w fun e w' => ∃ o K', e = .returned (.slice o n n) ∧ o.isNone = ao.isNone ∧ Chg (fun _ => False) w w' ∧ ChunksIn w' o n K' ∧ CkSame K K' n := by
  cases ao with
  | none =>
    obtain rfl := hz rfl
    exact (clone18_nil 0 c w).mono fun e w' ⟨h1, h2⟩ => ⟨none, K, h1, rfl, h2 ▸ Chg.refl _ _, fun i h => by omega, rfl, rfl, rfl, rfl, fun _ _ => rfl⟩
  | some a =>
    refine (clone18 (some a) n c K w hn rfl hc hb).mono fun e w' ⟨h1, arr, ba, h⟩ => ⟨_, { K with ba := ba, bc := K.bl }, h1, rfl, h.chg, ?_, rfl, rfl, rfl, rfl, ?_⟩
    · intro i hi
      obtain ⟨a1, a2, a3, a4, a5⟩ := h.cells i hi
      refine ⟨_, 0, rfl, ?_, ?_, ?_, a4, Nat.le_trans (hb i hi) (by decide), ?_⟩
      · rw [cell_of_row _ _ _ _ _ _ h.blk, Nat.zero_add]; exact a1
      · rw [cell_of_row _ _ _ _ _ _ h.blk, Nat.zero_add]; exact a2
      · rw [cell_of_row _ _ _ _ _ _ h.blk, Nat.zero_add]; exact a3
      · intro e
        rcases a5 with ⟨_, _, h0⟩ | ⟨g, e2, _⟩
        · exact ⟨h0, h0⟩
        · have e' : ba i = none := e
          rw [e2] at e'; cases e'
    · intro i hi
      obtain ⟨_, _, _, _, a5⟩ := h.cells i hi
      show (ba i).isNone = _
      rcases a5 with ⟨e1, e2, _⟩ | ⟨g, e1, _, e2⟩
      · rw [e1, e2]
      · rw [e1, e2]; rfl
end Go.Proofs.Qxb6603459aMods
