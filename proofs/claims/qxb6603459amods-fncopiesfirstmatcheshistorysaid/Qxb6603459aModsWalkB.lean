import Derived.Test.Qxb6603459aModsWalkA
namespace Go.Proofs.Qxb6603459aMods
open Go.RowKit Go.MapFns

abbrev Cs := Nat → Int × Int × Int × Int
def sameOp (cs : Cs) (k j : Nat) : Bool := (cs k).1 == (cs j).1 && (cs k).2.1 == (cs j).2.1
def hmax (cs : Cs) (j : Nat) : Nat → Int
  | 0 => (cs j).2.2.2
  | k + 1 => if sameOp cs k j = true ∧ hmax cs j k < (cs k).2.2.2 then (cs k).2.2.2 else hmax cs j k
def hdup (cs : Cs) (acc : Nat → Bool) (j : Nat) : Nat → Bool
  | 0 => false
  | k + 1 => hdup cs acc j k || (sameOp cs k j && acc k && (cs k).2.2.1 == (cs j).2.2.1)
def hist (cs : Cs) (acc : Nat → Bool) (j : Nat) : Bool := !hdup cs acc j j && decide (hmax cs j j ≤ (cs j).2.2.1)
theorem hdup_mono {cs : Cs} {acc : Nat → Bool} {j k m : Nat} (h : hdup cs acc j k = true) (hkm : k ≤ m) : hdup cs acc j m = true := by
  induction hkm with
  | refl => exact h
  | step _ ih => simp [hdup, ih]

/-- the four cells of call i in the cloned row -/
def CallAt (cs : Cs) (w : World) (C i : Nat) : Prop :=
  w.cell? ⟨C, i * 4, none⟩ = some (.int .u64 (cs i).1) ∧ w.cell? ⟨C, i * 4 + 1, none⟩ = some (.int .u64 (cs i).2.1) ∧ w.cell? ⟨C, i * 4 + 2, none⟩ = some (.int .u64 (cs i).2.2.1) ∧ w.cell? ⟨C, i * 4 + 3, none⟩ = some (.int .u64 (cs i).2.2.2)
theorem CallAt.chg {cs : Cs} {w w' : World} {C i : Nat} {S : Nat → Prop} (h : CallAt cs w C i) (hc : Chg S w w') (hs : ¬ S C) : CallAt cs w' C i :=
  ⟨hc.cell h.1 hs, hc.cell h.2.1 hs, hc.cell h.2.2.1 hs, hc.cell h.2.2.2 hs⟩

set_option maxHeartbeats 400000 in
theorem hist12 (cs : Cs) (acc : Nat → Bool) (C A n j : Nat) (w : World) (hn : n ≤ 4096) (hj : j < n) (hC : ∀ i, i < n → CallAt cs w C i) (hA : ∀ i, i < j → w.cell? ⟨A, i, none⟩ = some (.bool (acc i))) :
    Calls Trym.prog 12 #[.slice (some ⟨C, 0, none⟩) n n, .slice (some ⟨A, 0, none⟩) n n, .int .i64 j] w fun e w' => e = .returned (.bool (hist cs acc j)) ∧ Chg (fun _ => False) w w' := by
  obtain ⟨c0, c1, c2, c3⟩ := hC j hj
  go_enter Trym.func12, Trym.ntmps12
  go_wp2_with ((guard_target =~ wpList _ _ _ (⟨none, Op.store 33 _ _, _, _, _, _⟩ :: _) _ _); refine wpList_store_fresh (by rfl) 33 _ _ (by rfl) [_, _, _, _] (by rfl) (by rfl) _ 33 (by rfl) (by kernel_rfl) (by rfl) ?_; intro w1 hc1 hs1 hb1; have f3 : w1.cell? ⟨w.heap.size, 3, none⟩ = some (.int .u64 (cs j).2.2.2) := cell_of_row w1 _ 3 _ _ _ hb1)
  go_loopw [8, 9] (fun hi i wr => ∃ k : Nat, k ≤ j ∧ i = .int .i64 k ∧ hi = .int .u64 (hmax cs j k) ∧ hdup cs acc j k = false ∧ Chg (fun _ => False) w1 wr) (fun _ i _ => j - (intOf i).toNat)
  case atStart => exact ⟨0, Nat.zero_le _, rfl, rfl, rfl, Chg.refl _ _⟩
  case round =>
    obtain ⟨k, hk, rfl, rfl, hd, hcr⟩ := hrel
    have fr0 : wr.cell? ⟨w.heap.size, 0, none⟩ = some (.int .u64 (cs j).1) := hcr.cell (cell_of_row w1 _ 0 _ _ _ hb1) (by simp)
    have fr1 : wr.cell? ⟨w.heap.size, 1, none⟩ = some (.int .u64 (cs j).2.1) := hcr.cell (cell_of_row w1 _ 1 _ _ _ hb1) (by simp)
    have fr2 : wr.cell? ⟨w.heap.size, 2, none⟩ = some (.int .u64 (cs j).2.2.1) := hcr.cell (cell_of_row w1 _ 2 _ _ _ hb1) (by simp)
    have hcw : Chg (fun _ => False) w wr := hc1.trans hcr
    have hz : w.heap.size < wr.heap.size := by have := hcr.size; omega
    by_cases hlt : k < j
    · have hCk := (hC k (by omega)).chg hcw (by simp)
      obtain ⟨d0, d1, d2, d3⟩ := hCk
      have ak := hcw.cell (hA k hlt) (by simp)
      clear hC hA c0 c1 c2 c3 hc1 hs1 hb1 f3
      have HH : Hid (hdup cs acc j k = false ∧ Chg (fun _ => False) w1 wr ∧ Chg (fun _ => False) w wr) := ⟨hd, hcr, hcw⟩
      clear hd hcr hcw
      by_cases e0 : (cs k).1 = (cs j).1
      · have b0 : ((cs k).1 != (cs j).1) = false := by simp [e0]
        by_cases e1 : (cs k).2.1 = (cs j).2.1
        · have b1 : ((cs k).2.1 != (cs j).2.1) = false := by simp [e1]
          have hso : Hid (sameOp cs k j = true) := by simp [Hid, sameOp, e0, e1]
          clear e0 e1
          by_cases hd2 : acc k = true ∧ (cs k).2.2.1 = (cs j).2.2.1
          · obtain ⟨ha, he⟩ := hd2
            have b2 : ((cs k).2.2.1 == (cs j).2.2.1) = true := by simp [he]
            have HF : Hid (hist cs acc j = false) := by
              have : hdup cs acc j (k + 1) = true := by simp [hdup, hso.out, ha, he]
              simp [Hid, hist, hdup_mono this (show k + 1 ≤ j by omega)]
            rw [ha] at ak
            clear he ha
            by_cases hf : hmax cs j k < (cs k).2.2.2
            all_goals
              go_wp2_with ((guard_target =~ wpList _ _ _ (⟨none, Op.store 33 _ _, _, _, _, _⟩ :: _) _ _); refine wpList_store_fresh (by rfl) 33 _ _ (by rfl) [_, _, _, _] (by rfl) (by rfl) _ 33 (by rfl) (by kernel_rfl) (by rfl) ?_; intro w2 hc2 hs2 hb2; have g0 : w2.cell? ⟨wr.heap.size, 0, none⟩ = some (.int .u64 (cs k).1) := cell_of_row w2 _ 0 _ _ _ hb2; have g1 : w2.cell? ⟨wr.heap.size, 1, none⟩ = some (.int .u64 (cs k).2.1) := cell_of_row w2 _ 1 _ _ _ hb2; have g2 : w2.cell? ⟨wr.heap.size, 2, none⟩ = some (.int .u64 (cs k).2.2.1) := cell_of_row w2 _ 2 _ _ _ hb2; have g3 : w2.cell? ⟨wr.heap.size, 3, none⟩ = some (.int .u64 (cs k).2.2.2) := cell_of_row w2 _ 3 _ _ _ hb2; have r0 := hc2.cell fr0 (by simp); have r1 := hc2.cell fr1 (by simp); have r2 := hc2.cell fr2 (by simp); have a2 := hc2.cell ak (by simp); have HC : Hid (Chg (fun _ => False) wr w2) := hc2; clear hb2 hc2)
              go_ret
              rw [HF.out]
              exact ⟨rfl, HH.out.2.2.trans HC.out⟩
          · have HD : Hid (hdup cs acc j (k + 1) = false) := by
              have h1 := HH.out.1
              have : ((acc k) && ((cs k).2.2.1 == (cs j).2.2.1)) = false := by
                cases ha : acc k
                · rfl
                · simp only [ha, true_and] at hd2
                  simp [hd2]
              simp only [Hid, hdup, h1, hso.out, Bool.true_and, this, Bool.false_or]
            by_cases hf : hmax cs j k < (cs k).2.2.2
            · have HM : Hid (hmax cs j (k + 1) = (cs k).2.2.2) := by simp [Hid, hmax, hso.out, hf]
              cases ha : acc k
              · rw [ha] at ak
                clear hd2 ha
                go_wp2_with ((guard_target =~ wpList _ _ _ (⟨none, Op.store 33 _ _, _, _, _, _⟩ :: _) _ _); refine wpList_store_fresh (by rfl) 33 _ _ (by rfl) [_, _, _, _] (by rfl) (by rfl) _ 33 (by rfl) (by kernel_rfl) (by rfl) ?_; intro w2 hc2 hs2 hb2; have g0 : w2.cell? ⟨wr.heap.size, 0, none⟩ = some (.int .u64 (cs k).1) := cell_of_row w2 _ 0 _ _ _ hb2; have g1 : w2.cell? ⟨wr.heap.size, 1, none⟩ = some (.int .u64 (cs k).2.1) := cell_of_row w2 _ 1 _ _ _ hb2; have g2 : w2.cell? ⟨wr.heap.size, 2, none⟩ = some (.int .u64 (cs k).2.2.1) := cell_of_row w2 _ 2 _ _ _ hb2; have g3 : w2.cell? ⟨wr.heap.size, 3, none⟩ = some (.int .u64 (cs k).2.2.2) := cell_of_row w2 _ 3 _ _ _ hb2; have r0 := hc2.cell fr0 (by simp); have r1 := hc2.cell fr1 (by simp); have r2 := hc2.cell fr2 (by simp); have a2 := hc2.cell ak (by simp); have HC : Hid (Chg (fun _ => False) wr w2) := hc2; clear hb2 hc2)
                go_roundw
                case rel => exact ⟨k + 1, by omega, by go_num, by rw [HM.out], HD.out, HH.out.2.1.trans HC.out⟩
                case measure => simp [intOf]; omega
              · rw [ha] at ak
                have b2 : ((cs k).2.2.1 == (cs j).2.2.1) = false := by simpa [ha] using hd2
                clear hd2 ha
                go_wp2_with ((guard_target =~ wpList _ _ _ (⟨none, Op.store 33 _ _, _, _, _, _⟩ :: _) _ _); refine wpList_store_fresh (by rfl) 33 _ _ (by rfl) [_, _, _, _] (by rfl) (by rfl) _ 33 (by rfl) (by kernel_rfl) (by rfl) ?_; intro w2 hc2 hs2 hb2; have g0 : w2.cell? ⟨wr.heap.size, 0, none⟩ = some (.int .u64 (cs k).1) := cell_of_row w2 _ 0 _ _ _ hb2; have g1 : w2.cell? ⟨wr.heap.size, 1, none⟩ = some (.int .u64 (cs k).2.1) := cell_of_row w2 _ 1 _ _ _ hb2; have g2 : w2.cell? ⟨wr.heap.size, 2, none⟩ = some (.int .u64 (cs k).2.2.1) := cell_of_row w2 _ 2 _ _ _ hb2; have g3 : w2.cell? ⟨wr.heap.size, 3, none⟩ = some (.int .u64 (cs k).2.2.2) := cell_of_row w2 _ 3 _ _ _ hb2; have r0 := hc2.cell fr0 (by simp); have r1 := hc2.cell fr1 (by simp); have r2 := hc2.cell fr2 (by simp); have a2 := hc2.cell ak (by simp); have HC : Hid (Chg (fun _ => False) wr w2) := hc2; clear hb2 hc2)
                go_roundw
                case rel => exact ⟨k + 1, by omega, by go_num, by rw [HM.out], HD.out, HH.out.2.1.trans HC.out⟩
                case measure => simp [intOf]; omega
            · have HM : Hid (hmax cs j (k + 1) = hmax cs j k) := by simp [Hid, hmax, hf]
              cases ha : acc k
              · rw [ha] at ak
                clear hd2 ha
                go_wp2_with ((guard_target =~ wpList _ _ _ (⟨none, Op.store 33 _ _, _, _, _, _⟩ :: _) _ _); refine wpList_store_fresh (by rfl) 33 _ _ (by rfl) [_, _, _, _] (by rfl) (by rfl) _ 33 (by rfl) (by kernel_rfl) (by rfl) ?_; intro w2 hc2 hs2 hb2; have g0 : w2.cell? ⟨wr.heap.size, 0, none⟩ = some (.int .u64 (cs k).1) := cell_of_row w2 _ 0 _ _ _ hb2; have g1 : w2.cell? ⟨wr.heap.size, 1, none⟩ = some (.int .u64 (cs k).2.1) := cell_of_row w2 _ 1 _ _ _ hb2; have g2 : w2.cell? ⟨wr.heap.size, 2, none⟩ = some (.int .u64 (cs k).2.2.1) := cell_of_row w2 _ 2 _ _ _ hb2; have g3 : w2.cell? ⟨wr.heap.size, 3, none⟩ = some (.int .u64 (cs k).2.2.2) := cell_of_row w2 _ 3 _ _ _ hb2; have r0 := hc2.cell fr0 (by simp); have r1 := hc2.cell fr1 (by simp); have r2 := hc2.cell fr2 (by simp); have a2 := hc2.cell ak (by simp); have HC : Hid (Chg (fun _ => False) wr w2) := hc2; clear hb2 hc2)
                go_roundw
                case rel => exact ⟨k + 1, by omega, by go_num, by rw [HM.out], HD.out, HH.out.2.1.trans HC.out⟩
                case measure => simp [intOf]; omega
              · rw [ha] at ak
                have b2 : ((cs k).2.2.1 == (cs j).2.2.1) = false := by simpa [ha] using hd2
                clear hd2 ha
                go_wp2_with ((guard_target =~ wpList _ _ _ (⟨none, Op.store 33 _ _, _, _, _, _⟩ :: _) _ _); refine wpList_store_fresh (by rfl) 33 _ _ (by rfl) [_, _, _, _] (by rfl) (by rfl) _ 33 (by rfl) (by kernel_rfl) (by rfl) ?_; intro w2 hc2 hs2 hb2; have g0 : w2.cell? ⟨wr.heap.size, 0, none⟩ = some (.int .u64 (cs k).1) := cell_of_row w2 _ 0 _ _ _ hb2; have g1 : w2.cell? ⟨wr.heap.size, 1, none⟩ = some (.int .u64 (cs k).2.1) := cell_of_row w2 _ 1 _ _ _ hb2; have g2 : w2.cell? ⟨wr.heap.size, 2, none⟩ = some (.int .u64 (cs k).2.2.1) := cell_of_row w2 _ 2 _ _ _ hb2; have g3 : w2.cell? ⟨wr.heap.size, 3, none⟩ = some (.int .u64 (cs k).2.2.2) := cell_of_row w2 _ 3 _ _ _ hb2; have r0 := hc2.cell fr0 (by simp); have r1 := hc2.cell fr1 (by simp); have r2 := hc2.cell fr2 (by simp); have a2 := hc2.cell ak (by simp); have HC : Hid (Chg (fun _ => False) wr w2) := hc2; clear hb2 hc2)
                go_roundw
                case rel => exact ⟨k + 1, by omega, by go_num, by rw [HM.out], HD.out, HH.out.2.1.trans HC.out⟩
                case measure => simp [intOf]; omega
        · have b1 : ((cs k).2.1 != (cs j).2.1) = true := by simp [e1]
          have hso : Hid (sameOp cs k j = false) := by simp [Hid, sameOp, e1]
          clear e0 e1
          go_wp2_with ((guard_target =~ wpList _ _ _ (⟨none, Op.store 33 _ _, _, _, _, _⟩ :: _) _ _); refine wpList_store_fresh (by rfl) 33 _ _ (by rfl) [_, _, _, _] (by rfl) (by rfl) _ 33 (by rfl) (by kernel_rfl) (by rfl) ?_; intro w2 hc2 hs2 hb2; have g0 : w2.cell? ⟨wr.heap.size, 0, none⟩ = some (.int .u64 (cs k).1) := cell_of_row w2 _ 0 _ _ _ hb2; have g1 : w2.cell? ⟨wr.heap.size, 1, none⟩ = some (.int .u64 (cs k).2.1) := cell_of_row w2 _ 1 _ _ _ hb2; have g2 : w2.cell? ⟨wr.heap.size, 2, none⟩ = some (.int .u64 (cs k).2.2.1) := cell_of_row w2 _ 2 _ _ _ hb2; have g3 : w2.cell? ⟨wr.heap.size, 3, none⟩ = some (.int .u64 (cs k).2.2.2) := cell_of_row w2 _ 3 _ _ _ hb2; have r0 := hc2.cell fr0 (by simp); have r1 := hc2.cell fr1 (by simp); have r2 := hc2.cell fr2 (by simp); have a2 := hc2.cell ak (by simp); have HC : Hid (Chg (fun _ => False) wr w2) := hc2; clear hb2 hc2)
          go_roundw
          case rel => exact ⟨k + 1, by omega, by go_num, by simp [hmax, hso.out], by simp [hdup, hso.out, HH.out.1], HH.out.2.1.trans HC.out⟩
          case measure => simp [intOf]; omega
      · have b0 : ((cs k).1 != (cs j).1) = true := by simp [e0]
        have hso : Hid (sameOp cs k j = false) := by simp [Hid, sameOp, e0]
        clear e0
        go_wp2_with ((guard_target =~ wpList _ _ _ (⟨none, Op.store 33 _ _, _, _, _, _⟩ :: _) _ _); refine wpList_store_fresh (by rfl) 33 _ _ (by rfl) [_, _, _, _] (by rfl) (by rfl) _ 33 (by rfl) (by kernel_rfl) (by rfl) ?_; intro w2 hc2 hs2 hb2; have g0 : w2.cell? ⟨wr.heap.size, 0, none⟩ = some (.int .u64 (cs k).1) := cell_of_row w2 _ 0 _ _ _ hb2; have g1 : w2.cell? ⟨wr.heap.size, 1, none⟩ = some (.int .u64 (cs k).2.1) := cell_of_row w2 _ 1 _ _ _ hb2; have g2 : w2.cell? ⟨wr.heap.size, 2, none⟩ = some (.int .u64 (cs k).2.2.1) := cell_of_row w2 _ 2 _ _ _ hb2; have g3 : w2.cell? ⟨wr.heap.size, 3, none⟩ = some (.int .u64 (cs k).2.2.2) := cell_of_row w2 _ 3 _ _ _ hb2; have r0 := hc2.cell fr0 (by simp); have r1 := hc2.cell fr1 (by simp); have r2 := hc2.cell fr2 (by simp); have a2 := hc2.cell ak (by simp); have HC : Hid (Chg (fun _ => False) wr w2) := hc2; clear hb2 hc2)
        go_roundw
        case rel => exact ⟨k + 1, by omega, by go_num, by simp [hmax, hso.out], by simp [hdup, hso.out, HH.out.1], HH.out.2.1.trans HC.out⟩
        case measure => simp [intOf]; omega
    · have : k = j := by omega
      subst this
      clear hC hA c0 c1 c2 c3 hc1 hs1 hb1 f3
      have HH : Hid (hdup cs acc k k = false ∧ Chg (fun _ => False) w wr) := ⟨hd, hcw⟩
      clear hd hcr hcw
      go_wp2
      go_ret
      exact ⟨by simp [hist, HH.out.1], HH.out.2⟩
end Go.Proofs.Qxb6603459aMods
