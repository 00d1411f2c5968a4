import Derived.Test.Qxb6603459aModsFirst
import Derived.Test.Qxb6603459aModsPlain1
import Derived.Deep.RegionHeld3
namespace Go.Proofs.Qxb6603459aMods
open Go.RowKit Go.MapFns

set_option maxHeartbeats 400000 in
theorem zz9_yes (x : Option Addr) (n c : Nat) (w : World) (hn : n ≤ 1048576) :
    Calls Trym.prog 9 #[.slice x n c] w fun e w' => e = .returned (.bool true) ∧ w' = w := by
  have h1 : ¬ (1048576 : Int) < (n : Int) := by omega
  go_enter Trym.func9, Trym.ntmps9
  go_wp2
  go_ret
  exact ⟨rfl, rfl⟩
set_option maxHeartbeats 400000 in
theorem zz9_no (x : Option Addr) (n c : Nat) (w : World) (hn : ¬ n ≤ 1048576) :
    Calls Trym.prog 9 #[.slice x n c] w fun e w' => e = .returned (.bool false) ∧ w' = w := by
  have h1 : (1048576 : Int) < (n : Int) := by omega
  go_enter Trym.func9, Trym.ntmps9
  go_wp2
  go_ret
  exact ⟨rfl, rfl⟩
attribute [local go_sem] run_makeMap_fn eqnil22
set_option maxHeartbeats 400000 in
theorem new11 (w : World) : Calls Trym.prog 11 #[] w fun e w' => e = .returned (.map (some w.heap.size)) ∧ w' = w.alloc (.map #[] 0) := by
  go_enter Trym.func11, Trym.ntmps11
  go_wp2
  go_ret
  exact ⟨rfl, rfl⟩
set_option maxHeartbeats 400000 in
theorem clone10_nil (n c : Nat) (w : World) : Calls Trym.prog 10 #[.slice none n c] w fun e w' => e = .returned (.slice none 0 0) ∧ w' = w := by
  go_enter Trym.func10, Trym.ntmps10
  go_wp2
  go_ret
  exact ⟨rfl, rfl⟩
set_option maxHeartbeats 400000 in
theorem zzfirst13 (w : World) (B M : Nat) (g : Gst) (F : OKey → Option Value) (o m : OKey → Nat) (hcop : Cop w B M g F o m) (hB : B ≤ w.heap.size) (p i s f : Int) :
    Calls Trym.prog 13 #[.map (some M), .int .u64 p, .int .u64 i, .int .u64 s, .int .u64 f] w fun e w' =>
      e = .returned (.bool (ans (cur g (p, i)).1 (cur g (p, i)).2 s f)) ∧ (∃ F' o' m', Cop w' B M (gstep g (p, i) s f) F' o' m') ∧ Below B w w' ∧ Keep w w' := by
  go_enter Trym.func13, Trym.ntmps13
  go_wp2_with (go_at_call 34; refine (first34 w B M g F o m hcop hB p i s f).mono ?_; rintro e w' ⟨rfl, h2, h3, h4⟩)
  go_ret
  exact ⟨rfl, h2, h3, h4⟩
theorem Trym.info4 : (Trym.prog.info? 4).map (fun i => (i.zero, i.size, i.bytes)) = some (some (.bool false), 1, 1) := by kernel_rfl
theorem mk28 (w : World) (n : Nat) (hc : n ≤ 4096) : (Instr.makeSlice 28 (.int .i64 n) (.int .i64 n)).run Trym.prog w =
   .ok (.slice (some ⟨w.heap.size, 0, none⟩) n n) (w.alloc (.cells (Array.replicate n (.bool false)) 4)) := by
  obtain ⟨i, hi, hz, hs, hb⟩ := info_parts Trym.info4
  rw [run_make w 28 4 i _ Trym.underlying28 hi hz .i64 .i64 n n (by omega) (by omega) (by rw [hb]; omega) (by omega)]
  congr 3
  rw [hs]
  apply Array.ext
  · simp [madeCells]
  · intro j h1 h2
    simp [madeCells, Value.cells]
    rw [Nat.mod_one]; rfl
attribute [local go_sem] mk28

structure LawR (w : World) (cs : Cs) (n C A B M : Nat) (arr : Array Value) (j : Nat) (wr : World) : Prop where
  calls : wr.heap[C]? = some (.cells arr 33 (0, 0))
  acc : ∃ ac, wr.heap[A]? = some (.cells ac 4 (0, 0)) ∧ ac.size = n ∧ ∀ i, i < j → ac[i]? = some (.bool (accC cs i))
  cop : ∃ F o m, Cop wr B M (runC cs j) F o m
  bel : Below w.heap.size w wr
  bs : B ≤ wr.heap.size

theorem LawR.callAt {w wr : World} {cs : Cs} {n C A B M j : Nat} {arr : Array Value} (h : LawR w cs n C A B M arr j wr) (hr : Row4 cs arr n) {i : Nat} (hi : i < n) : CallAt cs wr C i := by
  obtain ⟨a, b, c, d⟩ := hr i hi
  exact ⟨(cell_of_row wr _ _ _ _ _ h.calls).trans a, (cell_of_row wr _ _ _ _ _ h.calls).trans b, (cell_of_row wr _ _ _ _ _ h.calls).trans c, (cell_of_row wr _ _ _ _ _ h.calls).trans d⟩

theorem callAt_keep {w wr w3 w4 : World} {cs : Cs} {n C A B M j : Nat} {arr : Array Value} (h : LawR w cs n C A B M arr j wr) (hr : Row4 cs arr n) {i : Nat} (hi : i < n) (h3 : Chg (fun _ => False) wr w3) (h4 : Keep w3.drew w4) : CallAt cs w4 C i := by
  obtain ⟨a, b, c, d⟩ := hr i hi
  have hC : w4.heap[C]? = some (.cells arr 33 (0, 0)) := h4 _ _ _ _ (h3.blk h.calls (by simp)) (by decide)
  exact ⟨(cell_of_row w4 _ _ _ _ _ hC).trans a, (cell_of_row w4 _ _ _ _ _ hC).trans b, (cell_of_row w4 _ _ _ _ _ hC).trans c, (cell_of_row w4 _ _ _ _ _ hC).trans d⟩

theorem acc_keep {wr w3 w4 : World} {n A k : Nat} {ac : Array Value} (h1 : wr.heap[A]? = some (.cells ac 4 (0, 0))) (h2 : ac.size = n) (hk : k < n) (h3 : Chg (fun _ => False) wr w3) (h4 : Keep w3.drew w4) :
    ∃ av, w4.cell? ⟨A, k, none⟩ = some av ∧ w4.frozen? ⟨A, k, none⟩ = false := by
  have hA : w4.heap[A]? = some (.cells ac 4 (0, 0)) := h4 _ _ _ _ (h3.blk h1 (by simp)) (by decide)
  exact ⟨ac[k], by rw [cell_of_row w4 _ _ _ _ _ hA, Array.getElem?_eq_getElem (by omega)], frozen_of_row w4 _ _ _ _ hA⟩

theorem law3_step {w wr w3 w4 : World} {cs : Cs} {n C A B k : Nat} {arr ac : Array Value} (h : LawR w cs n C A B B arr k wr) (h1 : wr.heap[A]? = some (.cells ac 4 (0, 0))) (h2 : ac.size = n) (h3' : ∀ i, i < k → ac[i]? = some (.bool (accC cs i)))
    (hk : k < n) (h3 : Chg (fun _ => False) wr w3) (hcop : ∃ F o m, Cop w4 B B (runC cs (k + 1)) F o m) (hbel : Below B w3.drew w4) (hkp : Keep w3.drew w4) (hwB : w.heap.size ≤ B := by omega) (hwA : w.heap.size ≤ A := by omega) (hAC : A ≠ C := by omega) :
    LawR w cs n C A B B arr (k + 1) (w4.setCell ⟨A, k, none⟩ (.bool (accC cs k))) := by
  have hA : w4.heap[A]? = some (.cells ac 4 (0, 0)) := hkp _ _ _ _ (h3.blk h1 (by simp)) (by decide)
  have hC : w4.heap[C]? = some (.cells arr 33 (0, 0)) := hkp _ _ _ _ (h3.blk h.calls (by simp)) (by decide)
  have hcA : Chg (· = A) w4 (w4.setCell ⟨A, k, none⟩ (.bool (accC cs k))) := Chg.setCell _ _ _ rfl
  refine ⟨hcA.blk hC (fun e => hAC e.symm), ⟨_, heap_setCell_same w4 _ _ _ _ _ hA, by simp [h2], ?_⟩, ?_, ?_, ?_⟩
  · intro i hi
    by_cases e : i = k
    · subst e
      have : i < ac.size := by omega
      simp [this]
    · rw [Array.getElem?_setIfInBounds, if_neg (by omega)]
      exact h3' i (by omega)
  · obtain ⟨F, o, m, hc⟩ := hcop
    refine ⟨F, o, m, ?_⟩
    have hne : ∀ (b : Nat) (o : Obj), w4.heap[b]? = some o → (∀ c fr, o ≠ .cells c 4 fr) → b ≠ A := by
      intro b o hb ho e
      rw [e, hA] at hb
      simp at hb
      exact ho _ _ hb.symm
    refine ⟨hc.base, hc.map.congr (hcA.block _ hc.map.lt ?_), hc.noneF, ?_, hc.inj⟩
    · obtain ⟨l, cl, hl, _⟩ := hc.map
      exact hne _ _ hl (by simp)
    · intro x fl ap hx
      obtain ⟨p1, p2⟩ := hc.someF x fl ap hx
      refine ⟨p1, p2.congr (hcA.block _ (blk_lt p2.cells) ?_) (hcA.block _ p2.set.lt ?_)⟩
      · exact hne _ _ p2.cells (by simp)
      · obtain ⟨l, cl, hl, _⟩ := p2.set
        exact hne _ _ hl (by simp)
  · have b1 : Below w.heap.size wr w3 := h3.below (h.bel.size) (by simp)
    have b2 : Below w.heap.size w3 w4 := ⟨hbel.os, hbel.tape, hbel.output, hbel.size, fun k hk => hbel.block k (by omega)⟩
    exact ((h.bel.trans b1).trans b2).trans (hcA.below (Nat.le_trans (Nat.le_trans h.bel.size b1.size) b2.size) (fun i hi => by omega))
  · simp
    exact Nat.le_trans (Nat.le_trans h.bs h3.size) hbel.size

theorem law3_start {w w1 : World} {cs : Cs} {arr : Array Value} (hc1 : Chg (fun _ => False) w w1) (hb1 : w1.heap[w.heap.size]? = some (.cells arr 33 (0, 0))) (n : Nat) :
    LawR w cs n w.heap.size (w1.heap.size + 1) w1.heap.size w1.heap.size arr 0 ((w1.alloc (.map #[] 0)).alloc (.cells (Array.replicate n (.bool false)) 4)) := by
  have hA1 := heap_alloc_new (w1.alloc (.map #[] 0)) (.cells (Array.replicate n (.bool false)) 4)
  rw [show (w1.alloc (.map #[] 0)).heap.size = w1.heap.size + 1 by simp] at hA1
  have hc2 := (Chg.alloc (fun _ => False) w1 (.map #[] 0)).trans (Chg.alloc (fun _ => False) _ (.cells (Array.replicate n (.bool false)) 4))
  refine ⟨hc2.blk hb1 (by simp), ⟨_, hA1, by simp, fun i h => by omega⟩, ⟨fun _ => none, fun _ => 0, fun _ => 0, ?_⟩, (hc1.trans hc2).toBelow, by simp; omega⟩
  refine ⟨Nat.le_refl _, (MapFn.made w1).congr (Below.heap_alloc _ _ _ (by simp)), fun _ _ => rfl, fun k fl ap h => by simp [runC] at h, fun k k' _ h => by simp [runC] at h⟩

set_option maxHeartbeats 1000000 in
theorem law3_main (ao : Option Addr) (n c : Nat) (cs : Cs) (w : World) (hn : n ≤ 4096) (ha : ao.isNone = false) (hc : Cells4 cs w ao n) (h0 : ∀ i, i < n → 0 ≤ (cs i).2.2.2) :
    Calls Trym.prog 3 #[.slice ao n c] w fun e w' => e = .returned (.bool true) ∧ Below w.heap.size w w' := by
  go_enter Trym.func3, Trym.ntmps3
  go_wp2_with (first
    | (go_at_call 9; refine (zz9_yes _ _ _ _ (by omega)).mono ?_; rintro e w' ⟨rfl, hw'⟩; rw [hw']; clear hw')
    | (go_at_call 10; refine (clone10 ao n c cs w hn ha hc).mono ?_; rintro e w1 ⟨rfl, hc1, hs1, arr, hb1, hz1, hr1⟩)
    | (go_at_call 11; refine (new11 _).mono ?_; rintro e w2 ⟨rfl, rfl⟩))
  go_loopw [5] (fun j wr => ∃ k : Nat, k ≤ n ∧ j = .int .i64 k ∧ LawR w cs n w.heap.size (w.heap.size + 1 + 1) (w.heap.size + 1) (w.heap.size + 1) arr k wr) (fun j _ => n - (intOf j).toNat)
  case atStart => exact ⟨0, Nat.zero_le _, rfl, hs1 ▸ law3_start hc1 hb1 n⟩
  case round =>
    obtain ⟨k, hk, rfl, hR⟩ := hrel
    by_cases hlt : k < n
    · have hCA : ∀ i, i < n → CallAt cs wr w.heap.size i := fun i hi => hR.callAt hr1 hi
      obtain ⟨ac, hac1, hac2, hac3⟩ := hR.acc
      have hh := hist12 cs (accC cs) w.heap.size (w.heap.size + 1 + 1) n k wr hn hlt hCA (fun i hi => by rw [cell_of_row wr _ i _ _ _ hac1]; exact hac3 i hi)
      rw [hist_eq cs k (h0 k hlt)] at hh
      have HR : Hid (_ ∧ _ ∧ _ ∧ _ ∧ _) := ⟨hR, hr1, hac1, hac2, hac3⟩
      have Hh : Hid (Calls _ _ _ _ _) := hh
      clear hh hR hr1 hac1 hac2 hac3 hCA hc1 hb1 hz1 hs1 hc h0
      go_wp2_with (go_at_call 12; refine Hh.out.mono ?_; rintro e w3 ⟨rfl, hc3⟩; obtain ⟨d0, d1, d2, d3⟩ := (HR.out.1.callAt HR.out.2.1 hlt).chg hc3 (by simp); have H3 : Hid (Chg (fun _ => False) wr w3) := hc3; clear hc3)
      have kk : (0 : Int) ≤ (k : Int) := by omega
      have kn : (k : Int) < (n : Int) := by omega
      obtain ⟨F, o, m, hcop⟩ := HR.out.1.cop
      have H13 : Hid (Calls Trym.prog 13 #[.map (some (w.heap.size + 1)), .int .u64 (cs k).1, .int .u64 (cs k).2.1, .int .u64 (cs k).2.2.1, .int .u64 (cs k).2.2.2] w3.drew fun e w' =>
          e = .returned (.bool (accC cs k)) ∧ (∃ F' o' m', Cop w' (w.heap.size + 1) (w.heap.size + 1) (runC cs (k + 1)) F' o' m') ∧ Below (w.heap.size + 1) w3.drew w' ∧ Keep w3.drew w') :=
        zzfirst13 w3.drew _ _ _ F o m (hcop.new (H3.out.trans (Chg.drew _ _))) (Nat.le_trans HR.out.1.bs H3.out.size) _ _ _ _
      clear hcop Hh
      go_region_held3 (fun w' => w'.cell? ⟨w.heap.size, k * 4, none⟩ = some (.int .u64 (cs k).1) ∧ w'.cell? ⟨w.heap.size, k * 4 + 1, none⟩ = some (.int .u64 (cs k).2.1) ∧ w'.cell? ⟨w.heap.size, k * 4 + 2, none⟩ = some (.int .u64 (cs k).2.2.1) ∧ w'.cell? ⟨w.heap.size, k * 4 + 3, none⟩ = some (.int .u64 (cs k).2.2.2)) (go_keep)
        ((go_at_call 13; refine H13.out.mono ?_; rintro e w4 ⟨rfl, hcop4, hbel4, hkp4⟩; obtain ⟨e0, e1, e2, e3⟩ : CallAt cs w4 w.heap.size k := callAt_keep HR.out.1 HR.out.2.1 hlt H3.out hkp4; obtain ⟨av, ga, gf⟩ := acc_keep HR.out.2.2.1 HR.out.2.2.2.1 hlt H3.out hkp4; have H4 : Hid (_ ∧ _ ∧ _) := ⟨hcop4, hbel4, hkp4⟩; clear hcop4 hbel4 hkp4))
      go_wp2
      go_roundw
      case rel => exact ⟨k + 1, by omega, by go_num, law3_step HR.out.1 HR.out.2.2.1 HR.out.2.2.2.1 HR.out.2.2.2.2 hlt H3.out H4.out.1 H4.out.2.1 H4.out.2.2⟩
      case measure => simp [intOf]; omega
    · go_wp2
      go_ret
      exact ⟨rfl, hR.bel⟩
end Go.Proofs.Qxb6603459aMods
