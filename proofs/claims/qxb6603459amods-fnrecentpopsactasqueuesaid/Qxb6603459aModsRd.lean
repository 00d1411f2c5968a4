/- Reading 'recent': whatever offset its chunks' slice has. Own work. -/
import Derived.Test.Qxb6603459aModsRecG
import Derived.Test.Qxb6603459aModsRecH
namespace Go.Proofs.Qxb6603459aMods
open Go.RowKit Go.MapFns
set_option linter.unusedVariables false

structure RdRep (w : World) (R : Nat) (F : Fl) (L : List Ck) : Prop where
  fields : w.heap[R]? = some (.cells (recArr F) 70 (0, 0))
  view : ∃ co cq, F.cv = .slice co L.length cq ∧ ∀ i c, L[i]? = some c → ∃ g off, co = some ⟨g, off, none⟩ ∧ w.cell? ⟨g, off + i * 2, none⟩ = some (.int .i64 c.at_) ∧ w.cell? ⟨g, off + i * 2 + 1, none⟩ = some (.slice (some ⟨c.blk, 0, none⟩) c.n c.cp)
  bufs : ∀ c ∈ L, BufAt w c

theorem RecRep.rd {w : World} {B R : Nat} {F : Fl} {L : List Ck} (h : RecRep w B R F L) : RdRep w R F L := by
  refine ⟨h.fields, ?_, fun c hc => (h.bufs c hc).2⟩
  by_cases h0 : 0 < L.length
  · obtain ⟨g, cq, cur, ecv, _, _, _, _, _, hcell⟩ := h.at h0
    refine ⟨_, cq, ecv, fun i c hc => ⟨g, 0, rfl, ?_, ?_⟩⟩
    · rw [Nat.zero_add]; exact (hcell i c hc).1
    · rw [Nat.zero_add]; exact (hcell i c hc).2
  · have hn : L = [] := List.eq_nil_of_length_eq_zero (by omega)
    subst hn
    rcases h.row.2 with ⟨h0, h1⟩ | ⟨g, cq, cur, e, hb, hg, hle, _, hsz, htk⟩
    · exact ⟨_, _, h0, fun i c hc => by simp at hc⟩
    · exact ⟨_, _, e, fun i c hc => by simp at hc⟩
theorem RdRep.new {w w' : World} {R : Nat} {F : Fl} {L : List Ck} (h : RdRep w R F L) (hc : Chg (fun _ => False) w w') : RdRep w' R F L := by
  obtain ⟨co, cq, e, hv⟩ := h.view
  refine ⟨hc.blk h.fields (by simp), ⟨co, cq, e, fun i c hi => ?_⟩, fun c hm => (h.bufs c hm).chg hc (by simp)⟩
  obtain ⟨g, off, e1, c0, c1⟩ := hv i c hi
  exact ⟨g, off, e1, hc.cell c0 (by simp), hc.cell c1 (by simp)⟩
theorem RdRep.cells {w : World} {R : Nat} {F : Fl} {L : List Ck} (h : RdRep w R F L) :
    w.cell? ⟨R, 0, none⟩ = some (.int .i64 F.room) ∧ w.cell? ⟨R, 1, none⟩ = some (.int .u64 F.first) ∧ w.cell? ⟨R, 2, none⟩ = some F.ev ∧ w.cell? ⟨R, 3, none⟩ = some (.int .i64 F.head) ∧ w.cell? ⟨R, 4, none⟩ = some (.int .i64 F.start) ∧ w.cell? ⟨R, 5, none⟩ = some F.cv ∧
    w.cell? ⟨R, 6, none⟩ = some (.int .i64 F.chunked) ∧ w.cell? ⟨R, 7, none⟩ = some (.int .i64 F.next) ∧ w.cell? ⟨R, 8, none⟩ = some (.bool F.fresh) :=
  ⟨cell_of_row w _ 0 _ _ _ h.fields, cell_of_row w _ 1 _ _ _ h.fields, cell_of_row w _ 2 _ _ _ h.fields, cell_of_row w _ 3 _ _ _ h.fields, cell_of_row w _ 4 _ _ _ h.fields, cell_of_row w _ 5 _ _ _ h.fields, cell_of_row w _ 6 _ _ _ h.fields, cell_of_row w _ 7 _ _ _ h.fields, cell_of_row w _ 8 _ _ _ h.fields⟩
theorem chg_drewN (S : Nat → Prop) (w : World) (n : Nat) : Chg S w (w.drewN n) := ⟨rfl, rfl, rfl, Nat.le_refl _, fun _ _ _ => rfl⟩

set_option maxHeartbeats 1000000 in
theorem rd22 (w : World) (R : Nat) (F : Fl) (L : List Ck) (h : RdRep w R F L) :
    Calls Trym.prog 22 #[.pointer (some ⟨R, 0, none⟩)] w fun e w' => e = .returned (.tuple #[.int .i64 F.room, .int .u64 F.first, F.ev, .int .i64 F.head, .int .i64 F.start, .int .i64 F.chunked, .int .i64 F.next, .bool F.fresh]) ∧ Chg (fun _ => False) w w' := by
  obtain ⟨f0, f1, f2, f3, f4, f5, f6, f7, f8⟩ := h.cells
  clear h
  go_enter Trym.func22, Trym.ntmps22
  go_wp2
  go_quiet (fail)
  go_wp2
  refine bodyPost_ret (results_tmp8 rfl _ _ _) rfl ?_
  exact ⟨rfl, chg_drewN _ _ _⟩

set_option maxHeartbeats 1000000 in
theorem rd25 (w : World) (R : Nat) (F : Fl) (L : List Ck) (h : RdRep w R F L) :
    Calls Trym.prog 25 #[.pointer (some ⟨R, 0, none⟩)] w fun e w' => e = .returned (.int .i64 L.length) ∧ w' = w := by
  obtain ⟨co, cq, ecv, _⟩ := h.view
  have f5 := h.cells.2.2.2.2.2.1
  rw [ecv] at f5
  clear h ecv
  go_enter Trym.func25, Trym.ntmps25
  go_wp2
  go_ret
  exact ⟨rfl, rfl⟩

set_option maxHeartbeats 1000000 in
theorem rd28 (w : World) (R : Nat) (F : Fl) (L : List Ck) (h : RdRep w R F L) (k : Nat) (c : Ck) (hk : L[k]? = some c) :
    Calls Trym.prog 28 #[.pointer (some ⟨R, 0, none⟩), .int .i64 k] w fun e w' => e = .returned (.tuple #[.int .i64 c.at_, .slice (some ⟨c.blk, 0, none⟩) c.n c.cp, .int .i64 c.cp]) ∧ Chg (fun _ => False) w w' := by
  have hlt : k < L.length := by
    rcases Nat.lt_or_ge k L.length with h | h
    · exact h
    · rw [List.getElem?_eq_none h] at hk; cases hk
  obtain ⟨co, cq, ecv, hv⟩ := h.view
  obtain ⟨g, off, rfl, k0, k1⟩ := hv k c hk
  have f5 := h.cells.2.2.2.2.2.1
  rw [ecv] at f5
  have kk : (0 : Int) ≤ (k : Int) := by omega
  have kn : (k : Int) < (L.length : Int) := by omega
  clear h ecv hv hk
  go_enter Trym.func28, Trym.ntmps28
  go_wp2
  go_quiet (fail)
  go_wp2
  go_ret3
  exact ⟨rfl, (Chg.alloc (fun _ => False) _ _).trans (chg_drewN _ _ _)⟩

set_option maxHeartbeats 1000000 in
theorem eq23 (w : World) (ao bo : Option Addr) (n ac bc : Nat) (f : Nat → Int) (ha : ElemsIn w ao n (i6 f)) (hb : ElemsIn w bo n (i6 f)) (hn : n ≤ 65536) :
    Calls Trym.prog 23 #[.slice ao n ac, .slice bo n bc] w fun e w' => e = .returned (.bool true) ∧ Chg (fun _ => False) w w' := by
  go_enter Trym.func23, Trym.ntmps23
  go_wp2
  go_loopw [5] (fun i wr => ∃ k : Nat, k ≤ n ∧ i = .int .i64 k ∧ ∃ n0, wr = w.drewN n0) (fun i _ => n - (intOf i).toNat)
  case atStart => exact ⟨0, Nat.zero_le _, rfl, 0, rfl⟩
  case round =>
    obtain ⟨k, hk, rfl, n0, rfl⟩ := hrel
    by_cases hlt : k < n
    · obtain ⟨b1, o1, rfl, c1⟩ := ha k hlt
      obtain ⟨b2, o2, rfl, c2⟩ := hb k hlt
      have z2 : (k : Int) < (n : Int) := by omega
      clear ha hb
      go_wp2_with fail
      go_quiet (fail)
      go_wp2
      go_roundw
      case rel => exact ⟨k + 1, by omega, by go_num, n0 + nq, rfl⟩
      case measure => simp [intOf]; omega
    · go_wp2
      go_ret
      exact ⟨rfl, chg_drewN _ _ _⟩

/-- 'a then b' is what the chunk holds -/
structure Holds (c : Ck) (an bn : Nat) (fa fb : Nat → Int) : Prop where
  len : c.n = an + bn
  fst : ∀ i, i < an → c.bs i = fa i
  snd : ∀ i, i < bn → c.bs (an + i) = fb i

set_option maxHeartbeats 2000000 in
theorem match24 (w : World) (R : Nat) (F : Fl) (L : List Ck) (h : RdRep w R F L) (hL : L.length ≤ 100000) (k : Nat) (c : Ck) (hk : L[k]? = some c) (ao : Option Addr) (an ac : Nat) (fa : Nat → Int) (ha : ElemsIn w ao an (byt fa)) (bo : Option Addr) (bn bc : Nat) (fb : Nat → Int)
    (hb : ElemsIn w bo bn (byt fb)) (hh : Holds c an bn fa fb) (han : an ≤ 2000000) (hbn : bn ≤ 2000000) :
    Calls Trym.prog 24 #[.pointer (some ⟨R, 0, none⟩), .int .i64 k, .int .i64 c.at_, .slice ao an ac, .slice bo bn bc, .int .i64 c.cp] w fun e w' => e = .returned (.bool true) ∧ Chg (fun _ => False) w w' := by
  have hlt : k < L.length := by
    rcases Nat.lt_or_ge k L.length with h | h
    · exact h
    · rw [List.getElem?_eq_none h] at hk; cases hk
  have hcm : c ∈ L := List.mem_of_getElem? hk
  have H : Hid (RdRep w R F L ∧ L[k]? = some c ∧ ElemsIn w ao an (byt fa) ∧ ElemsIn w bo bn (byt fb) ∧ Holds c an bn fa fb ∧ c ∈ L) := ⟨h, hk, ha, hb, hh, hcm⟩
  clear h hk ha hb hh hcm
  obtain ⟨at1, bs1, n1, cp1, blk1⟩ := c
  obtain rfl : n1 = an + bn := H.out.2.2.2.2.1.len
  have z1 : ¬ (k : Int) < 0 := by omega
  have z2 : decide ((k : Int) < 0) = false := decide_eq_false z1
  have z3 : (k : Int) < (L.length : Int) := by omega
  go_enter Trym.func24, Trym.ntmps24
  go_wp2_with (first
    | (go_at_call 25; refine (rd25 w R F L H.out.1).mono ?_; rintro e w' ⟨rfl, hw'⟩; rw [hw']; clear hw')
    | (go_at_call 28; refine (rd28 w R F L H.out.1 k _ H.out.2.1).mono ?_; rintro e w1 ⟨rfl, hc1⟩))
  obtain ⟨arr, a1, a2, a3, a4⟩ := (H.out.1.bufs _ H.out.2.2.2.2.2).chg hc1 (by simp)
  have HB : Hid ((∀ j, j < an + bn → w1.cell? ⟨blk1, j, none⟩ = some (.int .u8 (bs1 j))) ∧ ElemsIn w1 ao an (byt fa) ∧ ElemsIn w1 bo bn (byt fb) ∧ Chg (fun _ => False) w w1) :=
    ⟨fun j hj => by rw [cell_of_row w1 _ _ _ _ _ a1]; exact a4 j hj, H.out.2.2.1.chg hc1 (by simp), H.out.2.2.2.1.chg hc1 (by simp), hc1⟩
  clear a1 a2 a3 a4 hc1
  go_loopw [16] (fun i wr => ∃ k : Nat, k ≤ an ∧ i = .int .i64 k ∧ ∃ n0, wr = w1.drewN n0) (fun i _ => an - (intOf i).toNat)
  case atStart => exact ⟨0, Nat.zero_le _, rfl, 0, rfl⟩
  case round =>
    obtain ⟨j, hj, rfl, n0, rfl⟩ := hrel
    by_cases hja : j < an
    · obtain ⟨b1, o1, rfl, c1⟩ := HB.out.2.1 j hja
      have c2 := HB.out.1 j (by omega)
      have e2 : bs1 j = fa j := H.out.2.2.2.2.1.fst j hja
      rw [e2] at c2
      clear e2
      have y1 : (j : Int) < (an : Int) := by omega
      have y2 : (j : Int) < (an : Int) + (bn : Int) := by omega
      go_wp2_with fail
      go_quiet (fail)
      go_wp2
      go_roundw
      case rel => exact ⟨j + 1, by omega, by go_num, n0 + nq, rfl⟩
      case measure => simp [intOf]; omega
    · go_wp2_with fail
      go_loopw [17] (fun i wr => ∃ k : Nat, k ≤ bn ∧ i = .int .i64 k ∧ ∃ n0, wr = w1.drewN n0) (fun i _ => bn - (intOf i).toNat)
      case atStart => exact ⟨0, Nat.zero_le _, rfl, n0, rfl⟩
      case round =>
        obtain ⟨m, hm, rfl, n2, rfl⟩ := hrel
        by_cases hmb : m < bn
        · obtain ⟨b1, o1, rfl, c1⟩ := HB.out.2.2.1 m hmb
          have c2 := HB.out.1 (an + m) (by omega)
          have e2 : bs1 (an + m) = fb m := H.out.2.2.2.2.1.snd m hmb
          rw [e2] at c2
          clear e2
          have y1 : (m : Int) < (bn : Int) := by omega
          have y2 : (an : Int) + (m : Int) < (an : Int) + (bn : Int) := by omega
          go_wp2_with fail
          go_quiet (fail)
          go_wp2
          go_roundw
          case rel => exact ⟨m + 1, by omega, by go_num, n2 + nq, rfl⟩
          case measure => simp [intOf]; omega
        · go_wp2
          go_ret
          exact ⟨rfl, HB.out.2.2.2.trans (chg_drewN _ _ _)⟩
end Go.Proofs.Qxb6603459aMods
