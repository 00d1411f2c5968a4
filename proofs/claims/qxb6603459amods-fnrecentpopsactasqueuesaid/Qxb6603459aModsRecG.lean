import Derived.Test.Qxb6603459aModsPlaceA
namespace Go.Proofs.Qxb6603459aMods
open Go.RowKit Go.MapFns

theorem results_tmp8 {fn : Func} {t0 t1 t2 t3 t4 t5 t6 t7 : Tmp} (h : fn.results = #[.tmp t0, .tmp t1, .tmp t2, .tmp t3, .tmp t4, .tmp t5, .tmp t6, .tmp t7]) (tmps : Array Value) (P : Program) (w : World) :
    (results fn tmps).run P w = .ok (.tuple #[tmps.getD t0 undef, tmps.getD t1 undef, tmps.getD t2 undef, tmps.getD t3 undef, tmps.getD t4 undef, tmps.getD t5 undef, tmps.getD t6 undef, tmps.getD t7 undef]) w := by
  simp [results, h]

set_option maxHeartbeats 1000000 in
theorem state22 (w : World) (B R : Nat) (F : Fl) (L : List Ck) (h : RecRep w B R F L) :
    Calls Trym.prog 22 #[.pointer (some ⟨R, 0, none⟩)] w fun e w' => e = .returned (.tuple #[.int .i64 F.room, .int .u64 F.first, F.ev, .int .i64 F.head, .int .i64 F.start, .int .i64 F.chunked, .int .i64 F.next, .bool F.fresh]) ∧ ∃ n, w' = w.drewN n := by
  obtain ⟨f0, f1, f2, f3, f4, f5, f6, f7, f8⟩ := h.cells
  clear h
  go_enter Trym.func22, Trym.ntmps22
  go_wp2
  go_quiet (fail)
  go_wp2
  refine bodyPost_ret (results_tmp8 rfl _ _ _) rfl ?_
  exact ⟨rfl, nq, rfl⟩

set_option maxHeartbeats 1000000 in
theorem count25 (w : World) (B R : Nat) (F : Fl) (L : List Ck) (h : RecRep w B R F L) :
    Calls Trym.prog 25 #[.pointer (some ⟨R, 0, none⟩)] w fun e w' => e = .returned (.int .i64 L.length) ∧ w' = w := by
  obtain ⟨co, cq, ecv⟩ : ∃ co cq, F.cv = .slice co L.length cq := by
    rcases h.row.2 with ⟨h0, h1⟩ | ⟨g, cq, cur, e, hb, hg, hle, _, hsz, htk⟩
    · exact ⟨_, _, by rw [h0, h1]⟩
    · exact ⟨_, _, e⟩
  have f5 := h.cells.2.2.2.2.2.1
  rw [ecv] at f5
  clear h ecv
  go_enter Trym.func25, Trym.ntmps25
  go_wp2
  go_ret
  exact ⟨rfl, rfl⟩

theorem below_drew' {B : Nat} {a w : World} (h : Below B a w) (n : Nat) : Below B a (w.drewN n) := ⟨h.os, h.tape, h.output, h.size, h.block⟩

set_option maxHeartbeats 1000000 in
theorem at28 (w : World) (B R : Nat) (F : Fl) (L : List Ck) (h : RecRep w B R F L) (k : Nat) (c : Ck) (hk : L[k]? = some c) :
    Calls Trym.prog 28 #[.pointer (some ⟨R, 0, none⟩), .int .i64 k] w fun e w' => e = .returned (.tuple #[.int .i64 c.at_, .slice (some ⟨c.blk, 0, none⟩) c.n c.cp, .int .i64 c.cp]) ∧ Chg (fun _ => False) w w' := by
  have hlt : k < L.length := by
    rcases Nat.lt_or_ge k L.length with h | h
    · exact h
    · rw [List.getElem?_eq_none h] at hk; cases hk
  obtain ⟨g, cq, cur, ecv, hgB, hcq, hgb, hgs, htk, hcell⟩ := h.at (by omega)
  obtain ⟨k0, k1⟩ := hcell k c hk
  have f5 := h.cells.2.2.2.2.2.1
  rw [ecv] at f5
  have kk : (0 : Int) ≤ (k : Int) := by omega
  have kn : (k : Int) < (L.length : Int) := by omega
  clear h ecv hcell htk hgb hk
  go_enter Trym.func28, Trym.ntmps28
  go_wp2
  go_quiet (fail)
  go_wp2
  go_ret3
  exact ⟨rfl, (Chg.alloc (fun _ => False) _ _).trans ⟨rfl, rfl, rfl, Nat.le_refl _, fun _ _ _ => rfl⟩⟩
end Go.Proofs.Qxb6603459aMods
