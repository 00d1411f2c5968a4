/- the law's reading of the chunks that are left. Own work. -/
import Derived.Test.Qxb6603459aModsPopB
import Derived.Deep.RegionHeld3
namespace Go.Proofs.Qxb6603459aMods
open Go.RowKit Go.MapFns
set_option linter.unusedVariables false

structure KeptIn (w : World) (R : Nat) (F : Fl) (M : List Ck) (co : Option Addr) (n : Nat) (K : CkIn) (s : Int) (k : Nat) : Prop where
  rd : RdRep w R F M
  ck : ChunksIn w co n K
  le : k ≤ n
  n4 : n ≤ 4096
  sz : ∀ i, i < n → K.bl i ≤ 65536 ∧ (K.bl i : Int) ≤ K.cp i ∧ K.cp i ≤ 65536
  go : ∀ i, i < k → wrap64 (K.at_ i + K.cp i) ≤ s
  stop : k < n → ¬ wrap64 (K.at_ k + K.cp k) ≤ s
  len : M.length = n - k
  is_ : ∀ i, k ≤ i → i < n → ∃ blk, M[i - k]? = some ⟨K.at_ i, K.bs i, K.bl i, (K.cp i).toNat, blk⟩

set_option maxHeartbeats 4000000 in
set_option maxRecDepth 100000 in
theorem kept32 (w : World) (R : Nat) (F : Fl) (M : List Ck) (co : Option Addr) (n cc : Nat) (K : CkIn) (s : Int) (k : Nat) (h : KeptIn w R F M co n K s k) :
    Calls Trym.prog 32 #[.pointer (some ⟨R, 0, none⟩), .slice co n cc, .int .i64 s] w fun e w' => e = .returned (.tuple #[.int .i64 (wsum K.cp k), .bool true]) ∧ Chg (fun _ => False) w w' := by
  have H : Hid (KeptIn w R F M co n K s k) := h
  have HM : Hid (M.length ≤ 5000 ∧ M.length = n - k) := ⟨by have := h.len; have := h.n4; omega, h.len⟩
  have hk := h.le
  have hn := h.n4
  clear h
  go_enter Trym.func32, Trym.ntmps32
  go_wp2_with fail
  go_loopw [8, 9, 10, 11] (fun p d q i wr => ∃ j : Nat, j ≤ n ∧ i = .int .i64 j ∧ p = .bool (decide (k < j)) ∧ d = .int .i64 (wsum K.cp (min j k)) ∧ q = .int .i64 ((j - k : Nat) : Int) ∧ Chg (fun _ => False) w wr) (fun _ _ _ i _ => n - (intOf i).toNat)
  case atStart => exact ⟨0, Nat.zero_le _, rfl, by simp, by simp [wsum], by simp, Chg.refl _ _⟩
  case round =>
    obtain ⟨j, hj, rfl, rfl, rfl, rfl, hC⟩ := hrel
    by_cases hlt : j < n
    · obtain ⟨b, off, rfl, c0, c1, c2, c3, _, _⟩ := H.out.ck j hlt
      obtain ⟨g1, g2, g3⟩ := H.out.sz j hlt
      have d0 := hC.cell c0 (by simp)
      have d1 := hC.cell c1 (by simp)
      have d2 := hC.cell c2 (by simp)
      have d3 := c3.chg hC (by simp)
      have HR : Hid (Chg (fun _ => False) w wr ∧ RdRep wr R F M) := ⟨hC, H.out.rd.new hC⟩
      have kk : (0 : Int) ≤ (j : Int) := by omega
      have kn : (j : Int) < (n : Int) := by omega
      clear hC c0 c1 c2 c3
      by_cases hjk : j < k
      · have y1 : decide (s < wrap64 (K.at_ j + K.cp j)) = false := decide_eq_false (by have := H.out.go j hjk; omega)
        have y2 : decide (k < j) = false := decide_eq_false (by omega)
        have hmin : min j k = j := by omega
        rw [y2, hmin]
        clear y2 hmin
        go_wp2_with fail
        go_quiet (fail)
        have HQ : Hid (Chg (fun _ => False) w (wr.drewN nq)) := HR.out.1.trans (chg_drewN _ _ _)
        go_wp2
        go_roundw
        case rel => exact ⟨j + 1, by omega, by go_num, by rw [decide_eq_false (by omega : ¬ k < j + 1)], by rw [show min (j + 1) k = j + 1 by omega]; rfl, by congr 1; omega, HQ.out⟩
        case measure => simp [intOf]; omega
      · obtain ⟨blk, hbk⟩ := H.out.is_ j (by omega) hlt
        have ecp : ((K.cp j).toNat : Int) = K.cp j := by omega
        have hmin : min j k = k := by omega
        obtain ⟨q, hq⟩ : ∃ q : Nat, q = j - k := ⟨_, rfl⟩
        have HQ : Hid (q = j - k) := hq
        have hq4 : q ≤ 4096 := by omega
        rw [← hq] at hbk
        rw [hmin, ← hq]
        clear hmin hq
        have HB : Hid (M[q]? = some ⟨K.at_ j, K.bs j, K.bl j, (K.cp j).toNat, blk⟩) := hbk
        have HE : Hid (((K.cp j).toNat : Int) = K.cp j) := ecp
        have HD : Hid (ElemsIn wr (K.ba j) (K.bl j) (byt (K.bs j))) := d3
        clear hbk ecp d3
        by_cases hje : j = k
        · have y1 : decide (s < wrap64 (K.at_ j + K.cp j)) = true := decide_eq_true (by have := H.out.stop (by omega); rw [← hje] at this; omega)
          rw [decide_eq_false (by omega : ¬ k < j)]
          clear hje
          go_wp2_with fail
          go_quiet (fail)
          have q0 : (wr.drewN nq).cell? ⟨b, off + j * 3, none⟩ = some (.int .i64 (K.at_ j)) := d0
          have q1 : (wr.drewN nq).cell? ⟨b, off + j * 3 + 1, none⟩ = some (.slice (K.ba j) (K.bl j) (K.bc j)) := d1
          have q2 : (wr.drewN nq).cell? ⟨b, off + j * 3 + 2, none⟩ = some (.int .i64 (K.cp j)) := d2
          have HR1 : Hid (Chg (fun _ => False) w (wr.drewN nq) ∧ RdRep (wr.drewN nq) R F M ∧ ElemsIn (wr.drewN nq) (K.ba j) (K.bl j) (byt (K.bs j))) := ⟨HR.out.1.trans (chg_drewN _ _ _), HR.out.2.new (chg_drewN _ _ _), HD.out⟩
          clear d0 d1 d2 HD HR
          generalize wr.drewN nq = wq at *
          have h24 := match24 wq.drew R F M (HR1.out.2.1.new (Chg.drew _ wq)) (by have := HM.out.1; omega) q _ HB.out (K.ba j) (K.bl j) (K.bc j) (K.bs j) HR1.out.2.2 none 0 0 (fun _ => 0) (fun i hi => by omega) ⟨rfl, fun i _ => rfl, fun i hi => by omega⟩ (by omega) (by omega)
          simp only [HE.out] at h24
          have H24 : Hid (Calls _ _ _ _ _) := h24
          clear h24
          go_wp2_with fail
          go_region_held3 (fun w' => w'.cell? ⟨b, off + j * 3, none⟩ = some (.int .i64 (K.at_ j)) ∧ w'.cell? ⟨b, off + j * 3 + 1, none⟩ = some (.slice (K.ba j) (K.bl j) (K.bc j)) ∧ w'.cell? ⟨b, off + j * 3 + 2, none⟩ = some (.int .i64 (K.cp j))) (go_keep)
            ((go_at_call 24; refine H24.out.mono ?_; rintro e wt ⟨rfl, hct⟩; have e0 := hct.cell (show wq.drew.cell? ⟨b, off + j * 3, none⟩ = _ from q0) (by simp); have e1 := hct.cell (show wq.drew.cell? ⟨b, off + j * 3 + 1, none⟩ = _ from q1) (by simp); have e2 := hct.cell (show wq.drew.cell? ⟨b, off + j * 3 + 2, none⟩ = _ from q2) (by simp); have HC : Hid (Chg (fun _ => False) wq wt) := (Chg.drew _ wq).trans hct; clear hct))
          go_wp2
          go_roundw
          case rel => exact ⟨j + 1, by omega, by go_num, by rw [decide_eq_true (by omega : k < j + 1)], by rw [show min (j + 1) k = k by omega], by have := HQ.out; congr 1; omega, HR1.out.1.trans HC.out⟩
          case measure => simp [intOf]; omega
        · rw [decide_eq_true (by omega : k < j)]
          cases y1 : decide (s < wrap64 (K.at_ j + K.cp j))
          · skip
            go_wp2_with fail
            go_quiet (fail)
            have q0 : (wr.drewN nq).cell? ⟨b, off + j * 3, none⟩ = some (.int .i64 (K.at_ j)) := d0
            have q1 : (wr.drewN nq).cell? ⟨b, off + j * 3 + 1, none⟩ = some (.slice (K.ba j) (K.bl j) (K.bc j)) := d1
            have q2 : (wr.drewN nq).cell? ⟨b, off + j * 3 + 2, none⟩ = some (.int .i64 (K.cp j)) := d2
            have HR1 : Hid (Chg (fun _ => False) w (wr.drewN nq) ∧ RdRep (wr.drewN nq) R F M ∧ ElemsIn (wr.drewN nq) (K.ba j) (K.bl j) (byt (K.bs j))) := ⟨HR.out.1.trans (chg_drewN _ _ _), HR.out.2.new (chg_drewN _ _ _), HD.out⟩
            clear d0 d1 d2 HD HR
            generalize wr.drewN nq = wq at *
            have h24 := match24 wq.drew R F M (HR1.out.2.1.new (Chg.drew _ wq)) (by have := HM.out.1; omega) q _ HB.out (K.ba j) (K.bl j) (K.bc j) (K.bs j) HR1.out.2.2 none 0 0 (fun _ => 0) (fun i hi => by omega) ⟨rfl, fun i _ => rfl, fun i hi => by omega⟩ (by omega) (by omega)
            simp only [HE.out] at h24
            have H24 : Hid (Calls _ _ _ _ _) := h24
            clear h24
            go_wp2_with fail
            go_region_held3 (fun w' => w'.cell? ⟨b, off + j * 3, none⟩ = some (.int .i64 (K.at_ j)) ∧ w'.cell? ⟨b, off + j * 3 + 1, none⟩ = some (.slice (K.ba j) (K.bl j) (K.bc j)) ∧ w'.cell? ⟨b, off + j * 3 + 2, none⟩ = some (.int .i64 (K.cp j))) (go_keep)
              ((go_at_call 24; refine H24.out.mono ?_; rintro e wt ⟨rfl, hct⟩; have e0 := hct.cell (show wq.drew.cell? ⟨b, off + j * 3, none⟩ = _ from q0) (by simp); have e1 := hct.cell (show wq.drew.cell? ⟨b, off + j * 3 + 1, none⟩ = _ from q1) (by simp); have e2 := hct.cell (show wq.drew.cell? ⟨b, off + j * 3 + 2, none⟩ = _ from q2) (by simp); have HC : Hid (Chg (fun _ => False) wq wt) := (Chg.drew _ wq).trans hct; clear hct))
            go_wp2
            go_roundw
            case rel => exact ⟨j + 1, by omega, by go_num, by rw [decide_eq_true (by omega : k < j + 1)], by rw [show min (j + 1) k = k by omega], by have := HQ.out; congr 1; omega, HR1.out.1.trans HC.out⟩
            case measure => simp [intOf]; omega
          · skip
            go_wp2_with fail
            go_quiet (fail)
            have q0 : (wr.drewN nq).cell? ⟨b, off + j * 3, none⟩ = some (.int .i64 (K.at_ j)) := d0
            have q1 : (wr.drewN nq).cell? ⟨b, off + j * 3 + 1, none⟩ = some (.slice (K.ba j) (K.bl j) (K.bc j)) := d1
            have q2 : (wr.drewN nq).cell? ⟨b, off + j * 3 + 2, none⟩ = some (.int .i64 (K.cp j)) := d2
            have HR1 : Hid (Chg (fun _ => False) w (wr.drewN nq) ∧ RdRep (wr.drewN nq) R F M ∧ ElemsIn (wr.drewN nq) (K.ba j) (K.bl j) (byt (K.bs j))) := ⟨HR.out.1.trans (chg_drewN _ _ _), HR.out.2.new (chg_drewN _ _ _), HD.out⟩
            clear d0 d1 d2 HD HR
            generalize wr.drewN nq = wq at *
            have h24 := match24 wq.drew R F M (HR1.out.2.1.new (Chg.drew _ wq)) (by have := HM.out.1; omega) q _ HB.out (K.ba j) (K.bl j) (K.bc j) (K.bs j) HR1.out.2.2 none 0 0 (fun _ => 0) (fun i hi => by omega) ⟨rfl, fun i _ => rfl, fun i hi => by omega⟩ (by omega) (by omega)
            simp only [HE.out] at h24
            have H24 : Hid (Calls _ _ _ _ _) := h24
            clear h24
            go_wp2_with fail
            go_region_held3 (fun w' => w'.cell? ⟨b, off + j * 3, none⟩ = some (.int .i64 (K.at_ j)) ∧ w'.cell? ⟨b, off + j * 3 + 1, none⟩ = some (.slice (K.ba j) (K.bl j) (K.bc j)) ∧ w'.cell? ⟨b, off + j * 3 + 2, none⟩ = some (.int .i64 (K.cp j))) (go_keep)
              ((go_at_call 24; refine H24.out.mono ?_; rintro e wt ⟨rfl, hct⟩; have e0 := hct.cell (show wq.drew.cell? ⟨b, off + j * 3, none⟩ = _ from q0) (by simp); have e1 := hct.cell (show wq.drew.cell? ⟨b, off + j * 3 + 1, none⟩ = _ from q1) (by simp); have e2 := hct.cell (show wq.drew.cell? ⟨b, off + j * 3 + 2, none⟩ = _ from q2) (by simp); have HC : Hid (Chg (fun _ => False) wq wt) := (Chg.drew _ wq).trans hct; clear hct))
            go_wp2
            go_roundw
            case rel => exact ⟨j + 1, by omega, by go_num, by rw [decide_eq_true (by omega : k < j + 1)], by rw [show min (j + 1) k = k by omega], by have := HQ.out; congr 1; omega, HR1.out.1.trans HC.out⟩
            case measure => simp [intOf]; omega
    · have hjn : j = n := by omega
      subst hjn
      have hmin : min j k = k := by omega
      rw [hmin]
      go_wp2_with (go_at_call 25; refine (rd25 wr R F M (H.out.rd.new hC)).mono ?_; rw [HM.out.2]; rintro e w' ⟨rfl, hw'⟩; rw [hw']; clear hw')
      have HC : Hid (Chg (fun _ => False) w wr) := hC
      clear hC
      go_ret2
      exact ⟨rfl, HC.out⟩
end Go.Proofs.Qxb6603459aMods
