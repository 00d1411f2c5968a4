import Derived.Test.Qxb6603459aModsRecE
namespace Go.Proofs.Qxb6603459aMods
open Go.RowKit Go.MapFns

def ListIs (L : List Ck) (n : Nat) (K : CkIn) : Prop := L.length = n ∧ ∀ i, i < n → ∃ blk, L[i]? = some ⟨K.at_ i, K.bs i, K.bl i, (K.cp i).toNat, blk⟩

theorem ListIs.snoc {L : List Ck} {k : Nat} {K : CkIn} (h : ListIs L k K) (blk : Nat) : ListIs (L ++ [⟨K.at_ k, K.bs k, K.bl k, (K.cp k).toNat, blk⟩]) (k + 1) K := by
  refine ⟨by simp [h.1], fun i hi => ?_⟩
  by_cases e : i = k
  · subst e
    exact ⟨blk, by rw [List.getElem?_append_right (by rw [h.1]; exact Nat.le_refl _), h.1]; simp⟩
  · obtain ⟨b, hb⟩ := h.2 i (by omega)
    exact ⟨b, by rw [List.getElem?_append_left (by rw [h.1]; omega)]; exact hb⟩

set_option maxHeartbeats 400000 in
theorem new35 (w : World) (room first head start chunked next : Int) (fresh : Bool) (eo : Option Addr) (en ec : Nat) :
    Calls Trym.prog 35 #[.int .i64 room, .int .u64 first, .slice eo en ec, .int .i64 head, .int .i64 start, .int .i64 chunked, .int .i64 next, .bool fresh] w fun e w' =>
      e = .returned (.pointer (some ⟨w.heap.size, 0, none⟩)) ∧ w' = w.alloc (.cells (recArr ⟨room, first, .slice eo en ec, head, start, .slice none 0 0, chunked, next, fresh⟩) 70) := by
  go_enter Trym.func35, Trym.ntmps35
  go_wp2
  go_ret
  exact ⟨rfl, rfl⟩

theorem ChunksIn.chg {w w' : World} {ao : Option Addr} {n : Nat} {K : CkIn} {B : Nat} (h : ChunksIn w ao n K) (hc : Below B w w') (hlt : w.heap.size ≤ B) : ChunksIn w' ao n K := by
  intro i hi
  obtain ⟨b, off, e, c0, c1, c2, c3, c4, c5⟩ := h i hi
  have hb : b < w.heap.size := World.block_lt_of_cell? w _ c0
  refine ⟨b, off, e, ?_, ?_, ?_, ?_, c4, c5⟩
  · rw [hc.cell (by show b < B; omega)]; exact c0
  · rw [hc.cell (by show b < B; omega)]; exact c1
  · rw [hc.cell (by show b < B; omega)]; exact c2
  · intro j hj
    obtain ⟨b', off', e', hcell⟩ := c3 j hj
    have hb' : b' < w.heap.size := World.block_lt_of_cell? w _ hcell
    exact ⟨b', off', e', by rw [hc.cell (by show b' < B; omega)]; exact hcell⟩

structure BldR (w wr : World) (k : Nat) (K : CkIn) (room first head start chunked next : Int) (fresh : Bool) (ev : Value) (cv : Value) (L : List Ck) : Prop where
  rep : RecRep wr w.heap.size w.heap.size ⟨room, first, ev, head, start, cv, chunked, next, fresh⟩ L
  is_ : ListIs L k K
  bel : Below w.heap.size w wr

set_option maxHeartbeats 1000000 in
theorem build20 (w : World) (room first head start chunked next : Int) (fresh : Bool) (eo : Option Addr) (en ec : Nat) (co : Option Addr) (cn cc : Nat) (K : CkIn) (hc : ChunksIn w co cn K) (hn : cn ≤ 4096)
    (hk : ∀ i, i < cn → K.bl i ≤ 65536 ∧ (K.bl i : Int) ≤ K.cp i ∧ K.cp i ≤ 65536) :
    Calls Trym.prog 20 #[.int .i64 room, .int .u64 first, .slice eo en ec, .int .i64 head, .int .i64 start, .slice co cn cc, .int .i64 chunked, .int .i64 next, .bool fresh] w fun e w' =>
      e = .returned (.pointer (some ⟨w.heap.size, 0, none⟩)) ∧ ∃ cv L, BldR w w' cn K room first head start chunked next fresh (.slice eo en ec) cv L := by
  go_enter Trym.func20, Trym.ntmps20
  go_wp2_with (go_at_call 35; refine (new35 w room first head start chunked next fresh eo en ec).mono ?_; rintro e w1 ⟨rfl, rfl⟩)
  go_loopw [20] (fun i wr => ∃ k : Nat, k ≤ cn ∧ i = .int .i64 k ∧ ∃ cv L, BldR w wr k K room first head start chunked next fresh (.slice eo en ec) cv L) (fun i _ => cn - (intOf i).toNat)
  case atStart => exact ⟨0, Nat.zero_le _, rfl, .slice none 0 0, [], ⟨Nat.le_refl _, heap_alloc_new _ _, World.ownsRow_nil _ _ _ _, by simp, by simp⟩, ⟨rfl, fun i h => by omega⟩, (Chg.alloc (fun _ => False) _ _).toBelow⟩
  case round =>
    obtain ⟨k, hkn, rfl, cv, L, hR⟩ := hrel
    by_cases hlt : k < cn
    · obtain ⟨b, off, rfl, d0, d1, d2, d3, _, _⟩ := (hc.chg hR.bel (Nat.le_refl _)) k hlt
      obtain ⟨g1, g2, g3⟩ := hk k hlt
      have kk : (0 : Int) ≤ (k : Int) := by omega
      have kn : (k : Int) < (cn : Int) := by omega
      have ecp : ((K.cp k).toNat : Int) = K.cp k := by omega
      have h36 := add36 wr.drew w.heap.size w.heap.size _ L (hR.rep.chg (Chg.drew _ wr)) hR.bel.size (K.at_ k) (K.ba k) (K.bl k) (K.bc k) (K.bs k) d3 (K.cp k).toNat (by omega) (by omega) (by have := hR.is_.1; omega)
      rw [ecp] at h36
      have H36 : Hid (Calls _ _ _ _ _) := h36
      have HR : Hid (BldR w wr k K room first head start chunked next fresh (.slice eo en ec) cv L) := hR
      have HH : Hid (ChunksIn w (some ⟨b, off, none⟩) cn K ∧ True) := ⟨hc, trivial⟩
      clear h36 hR d3 hc hk ecp
      go_wp2_with fail
      go_region_held3 (fun w' => w'.cell? ⟨b, off + k * 3, none⟩ = some (.int .i64 (K.at_ k)) ∧ w'.cell? ⟨b, off + k * 3 + 1, none⟩ = some (.slice (K.ba k) (K.bl k) (K.bc k)) ∧ w'.cell? ⟨b, off + k * 3 + 2, none⟩ = some (.int .i64 (K.cp k))) (go_keep)
        ((go_at_call 36; refine H36.out.mono ?_; rintro e w4 ⟨rfl, cv', hrep, hbel⟩; obtain ⟨b', off', e', e0, e1, e2, _⟩ := (HH.out.1.chg (HR.out.bel.drew.trans hbel) (Nat.le_refl _)) k hlt; simp at e'; rw [← e'.1, ← e'.2] at e0 e1 e2; have H4 : Hid (_ ∧ _) := ⟨hrep, hbel⟩; clear e' hrep hbel))
      go_wp2
      go_roundw
      case rel => exact ⟨k + 1, by omega, by go_num, _, _, H4.out.1, HR.out.is_.snoc _, HR.out.bel.drew.trans H4.out.2⟩
      case measure => simp [intOf]; omega
    · go_wp2
      go_ret
      have : k = cn := by omega
      subst this
      exact ⟨rfl, cv, L, hR⟩
end Go.Proofs.Qxb6603459aMods
