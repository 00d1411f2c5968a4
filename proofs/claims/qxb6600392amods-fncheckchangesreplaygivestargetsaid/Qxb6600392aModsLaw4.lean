/- The replay gives the target. Own work. -/
import Derived.Test.Qxb6600392aModsJ
import Derived.Deep.RegionHeld3
namespace Go.Proofs.Qxb6600392aMods
open Go.RowKit Go.MapFns
set_option linter.unusedVariables false

attribute [local go_sem high] eql31 neq31

set_option maxHeartbeats 4000000 in
set_option maxRecDepth 100000 in
theorem law4 (a1 a2 a3 a4 : Option Addr) (n1 n2 n3 n4 c1 c2 c3 c4 : Nat) (f1 f2 f3 f4 : Nat → ByteArray) (w : World) (e1 : ElemsIn w a1 n1 (str f1)) (e2 : ElemsIn w a2 n2 (str f2)) (e3 : ElemsIn w a3 n3 (str f3)) (e4 : ElemsIn w a4 n4 (str f4))
    (z1 : a1 = none → n1 = 0) (z3 : a3 = none → n3 = 0) (m1 : n1 ≤ maxLen) (m2 : n2 ≤ maxLen) (m3 : n3 ≤ maxLen) (m4 : n4 ≤ maxLen) :
    Calls Trym.prog 4 #[.slice a1 n1 c1, .slice a2 n2 c2, .slice a3 n3 c3, .slice a4 n4 c4] w fun e w' => e = .returned (.bool true) ∧ Below w.heap.size w w' := by
  have HI : Hid (ElemsIn w a1 n1 (str f1) ∧ ElemsIn w a2 n2 (str f2) ∧ ElemsIn w a3 n3 (str f3) ∧ ElemsIn w a4 n4 (str f4) ∧ (a1 = none → n1 = 0) ∧ (a3 = none → n3 = 0)) := ⟨e1, e2, e3, e4, z1, z3⟩
  have HM : Hid (n1 ≤ maxLen ∧ n2 ≤ maxLen ∧ n3 ≤ maxLen ∧ n4 ≤ maxLen) := ⟨m1, m2, m3, m4⟩
  clear e1 e2 e3 e4 z1 z3 m1 m2 m3 m4
  go_enter Trym.func4, Trym.ntmps4
  go_wp2_with fail
  refine (zz15 a1 a2 a3 a4 n1 n2 n3 n4 c1 c2 c3 c4 f1 f2 f3 f4 w HI.out.1 HI.out.2.1 HI.out.2.2.1 HI.out.2.2.2.1 HM.out.1 HM.out.2.1 HM.out.2.2.1 HM.out.2.2.2).mono ?_
  rintro e w' ⟨hyn, hw'⟩
  rw [hw']
  clear hw' w'
  rcases hyn with rfl | rfl
  rotate_left
  · go_wp2_with fail
    go_ret
    exact ⟨rfl, Below.refl _ _⟩
  by_cases s1 : n1 ≤ 4096
  rotate_left
  · go_wp2_with fail
    go_ret
    exact ⟨rfl, Below.refl _ _⟩
  by_cases s2 : n2 ≤ 4096
  rotate_left
  · go_wp2_with fail
    go_ret
    exact ⟨rfl, Below.refl _ _⟩
  by_cases s3 : n3 ≤ 4096
  rotate_left
  · go_wp2_with fail
    go_ret
    exact ⟨rfl, Below.refl _ _⟩
  by_cases s4 : n4 ≤ 4096
  rotate_left
  · go_wp2_with fail
    go_ret
    exact ⟨rfl, Below.refl _ _⟩

  go_wp2_with fail
  refine (bytes10 0 (.inr ⟨by omega, by omega⟩) a1 n1 c1 f1 w HI.out.1 s1).mono ?_
  rintro e w' ⟨⟨t1, rfl, ht1⟩, hw'⟩
  rw [hw']
  clear hw' w'
  go_wp2_with fail
  refine (bytes10 t1 ht1 a2 n2 c2 f2 w HI.out.2.1 s2).mono ?_
  rintro e w' ⟨⟨t2, rfl, ht2⟩, hw'⟩
  rw [hw']
  clear hw' w' ht1
  go_wp2_with fail
  refine (bytes10 t2 ht2 a3 n3 c3 f3 w HI.out.2.2.1 s3).mono ?_
  rintro e w' ⟨⟨t3, rfl, ht3⟩, hw'⟩
  rw [hw']
  clear hw' w' ht2
  go_wp2_with fail
  refine (bytes10 t3 ht3 a4 n4 c4 f4 w HI.out.2.2.2.1 s4).mono ?_
  rintro e w' ⟨⟨t4, rfl, ht4⟩, hw'⟩
  rw [hw']
  clear hw' w' ht3
  by_cases hneg : t4 < 0
  · go_wp2_with fail
    go_ret
    exact ⟨rfl, Below.refl _ _⟩
  by_cases he1 : n1 = n2
  rotate_left
  · have he2 : ¬ (n1 : Int) = (n2 : Int) := by omega
    go_wp2_with fail
    go_ret
    exact ⟨rfl, Below.refl _ _⟩
  subst he1
  by_cases he1 : n3 = n4
  rotate_left
  · have he2 : ¬ (n3 : Int) = (n4 : Int) := by omega
    go_wp2_with fail
    go_ret
    exact ⟨rfl, Below.refl _ _⟩
  subst he1
  clear ht4
  go_wp2_with fail
  refine (checks11 a1 a2 n1 c1 c2 (fun i => (f1 i, f2 i)) w s1 HI.out.2.2.2.2.1 HI.out.1 HI.out.2.1).mono ?_
  rintro e w1 ⟨o1, rfl, hc1, hk1⟩
  have H1 : Hid (Chg (fun _ => False) w w1 ∧ ChksIn w1 o1 n1 (fun i => (f1 i, f2 i))) := ⟨hc1, hk1⟩
  clear hc1 hk1
  go_wp2_with fail
  refine (checks11 a3 a4 n3 c3 c4 (fun i => (f3 i, f4 i)) w1 s3 HI.out.2.2.2.2.2 (HI.out.2.2.1.chg H1.out.1 (by simp)) (HI.out.2.2.2.1.chg H1.out.1 (by simp))).mono ?_
  rintro e w2 ⟨o2, rfl, hc2, hk2⟩
  generalize (fun i => (f1 i, f2 i)) = f at *
  generalize (fun i => (f3 i, f4 i)) = g at *
  have H2 : Hid (Chg (fun _ => False) w w2 ∧ ChksIn w2 o1 n1 f ∧ ChksIn w2 o2 n3 g) := ⟨H1.out.1.trans hc2, H1.out.2.new hc2, hk2⟩
  clear hc2 hk2 H1 HI HM
  go_wp2_with fail
  refine (distinct12 o1 n1 n1 f w2 s1 H2.out.2.1).mono ?_
  rintro e w' ⟨hd, mm, rfl⟩
  have H3 : Hid (Chg (fun _ => False) w (w2.drewN mm) ∧ ChksIn (w2.drewN mm) o1 n1 f ∧ ChksIn (w2.drewN mm) o2 n3 g) := ⟨H2.out.1.trans (chg_drewN _ _ _), H2.out.2.1.new (chg_drewN _ _ _), H2.out.2.2.new (chg_drewN _ _ _)⟩
  clear H2
  generalize w2.drewN mm = w3 at *
  rcases hd with ⟨rfl, hdis⟩ | rfl
  rotate_left
  · go_wp2_with fail
    go_ret
    exact ⟨rfl, H3.out.1.toBelow⟩
  have HD : Hid (Distinct f n1) := hdis
  clear hdis
  go_wp2_with fail
  refine (change13 o1 o2 n1 n1 n3 n3 f g w3 s1 s3 H3.out.2.1 H3.out.2.2).mono ?_
  rintro e w4 ⟨dv, av, B, rfl, hch⟩
  have H4 : Hid (Chg (fun _ => False) w w4 ∧ ChksIn w4 o1 n1 f ∧ ChksIn w4 o2 n3 g ∧ Own w4 B dv (dropL f g (runLen (oldOf f g n1) n3) n1) ∧ Own w4 B av (addL g (runLen (oldOf f g n1) n3) n3)) := ⟨H3.out.1.trans hch.chg, H3.out.2.1.new hch.chg, H3.out.2.2.new hch.chg, hch.drops, hch.adds⟩
  clear hch H3
  have HR : Hid (keepL f g (runLen (oldOf f g n1) n3) n1 = (List.range (runLen (oldOf f g n1) n3)).map g ∧ runLen (oldOf f g n1) n3 ≤ n3) := ⟨keep_all HD.out, runLen_le _ _⟩
  generalize runLen (oldOf f g n1) n3 = r at *
  have hr3 := HR.out.2
  obtain ⟨oa, ca, rfl, hA⟩ := H4.out.2.2.2.2.at
  obtain ⟨od, cd, rfl, hDr⟩ := H4.out.2.2.2.1.at
  rw [len_addL]
  have HA : Hid (∀ i, i < n3 - r → ∃ q, oa = some ⟨q, 0, none⟩ ∧ w4.cell? ⟨q, i * 2, none⟩ = some (.string (g (r + i)).1) ∧ w4.cell? ⟨q, i * 2 + 1, none⟩ = some (.string (g (r + i)).2)) := fun i hi => hA i (g (r + i)) (by unfold addL; rw [List.getElem?_map, List.getElem?_range (by omega)]; rfl)
  obtain ⟨d, hd1, hd2⟩ := drops_fn hDr
  have H5 : Hid (Chg (fun _ => False) w w4 ∧ ChksIn w4 o1 n1 f ∧ ChksIn w4 o2 n3 g) := ⟨H4.out.1, H4.out.2.1, H4.out.2.2.1⟩
  have hdl1 := len_dropL f g r n1
  generalize (dropL f g r n1).length = dl at *
  have HDr : Hid (ChksIn w4 od dl d ∧ ∀ i, i < n1 → hasB d (f i) dl = !hasB g (f i) r) := ⟨hd1, hd2⟩
  clear hA hDr hd1 hd2 H4
  have x1 : ¬ (n1 : Int) < (dl : Int) := by omega
  have x2 : ¬ (n3 : Int) < ((n3 - r : Nat) : Int) := by omega
  have x3 : ¬ n1 < dl := by omega
  have x4 : ¬ n3 < n3 - r := by omega
  have x5 : decide (n1 < dl) = false := decide_eq_false x3
  have x6 : decide (n3 < n3 - r) = false := decide_eq_false x4
  obtain ⟨i0, hi, hz0, hz1, hz2⟩ := info_parts Trym.info31
  have H6 : Hid (Q1 w4 w4 w4.heap.size (.slice none 0 0) (keepL f g r 0)) := Q1.start (Chg.refl _ _)
  generalize w4.heap.size = B2 at H6
  go_wp2_with fail
  go_loopw [15, 14] (fun i v wr => ∃ k : Nat, k ≤ n1 ∧ i = .int .i64 k ∧ Q1 w4 wr B2 v (keepL f g r k)) (fun i _ _ => n1 - (intOf i).toNat)
  case atStart => exact ⟨0, Nat.zero_le _, rfl, H6.out⟩
  case round =>
    obtain ⟨k, hk, rfl, hP⟩ := hrel
    have HP : Hid (Q1 w4 wr B2 u14 (keepL f g r k)) := hP
    clear hP H6
    by_cases hlt : k < n1
    · obtain ⟨b1, off1, rfl, v0, v1⟩ := H5.out.2.1 k hlt
      have y0 := HP.out.chg.cell v0 (by simp)
      have y1 := HP.out.chg.cell v1 (by simp)
      have kn : (k : Int) < (n1 : Int) := by omega
      have kk : (0 : Int) ≤ (k : Int) := by omega
      clear v0 v1
      go_wp2_with fail
      refine (has14 od dl cd d (f k) wr (by omega) (HDr.out.1.new HP.out.chg)).mono ?_
      rw [HDr.out.2 k hlt]
      rintro e wt ⟨rfl, hct⟩
      have c0 := hct.cell y0 (by simp)
      have c1 := hct.cell y1 (by simp)
      have HT : Hid (Q1 w4 wt B2 u14 (keepL f g r k)) := HP.out.new hct
      clear hct y0 y1 HP
      cases hb : hasB g (f k) r
      · have HK : Hid (keepL f g r (k + 1) = keepL f g r k) := keepL_out f g r k hb
        clear hb
        go_wp2_with fail
        go_roundw
        case rel => exact ⟨k + 1, by omega, by go_num, by rw [HK.out]; exact HT.out⟩
        case measure => simp [intOf]; omega
      · have HK : Hid (keepL f g r (k + 1) = keepL f g r k ++ [f k]) := keepL_in f g r k hb
        clear hb
        have HB : Hid (Q1 w4 (wt.alloc (.cells #[.string (f k).1, .string (f k).2] 31)) B2 u14 (keepL f g r k)) := HT.out.new (Chg.alloc _ _ _)
        have HN : Hid (∀ x u, ([.string (f k).1, .string (f k).2] : List Value)[x]? = some u → (wt.alloc (.cells #[.string (f k).1, .string (f k).2] 31)).cell? ((⟨wt.heap.size, 0, none⟩ : Addr).add x) = some u) := news_at1 _ _
        have HH : Hid (B2 ≤ (wt.alloc (.cells #[.string (f k).1, .string (f k).2] 31)).heap.size ∧ (keepL f g r k).length ≤ k) := ⟨HB.out.lo.2, len_keepL f g r k⟩
        go_wp2_with (guard_target =~ wpList _ _ _ (⟨_, Op.call ⟨Callee.builtin Builtin.append, _, _⟩, _, _, _, _⟩ :: _) _ _; refine wpList_append_lies _ (by rfl) _ _ 25 (by rfl) B2 31 i0 _ 2 32 Trym.underlying25 hi hz0 hz1 hz2 (by rfl) (by decide) u14 (keepL f g r k).length (rowOf (keepL f g r k)) (by rfl) HB.out.own ⟨wt.heap.size, 0, none⟩ 1 1 [.string (f k).1, .string (f k).2] (by rfl) (by rfl) HN.out (by simp; exact ⟨rfl, rfl⟩) (by decide) (by unfold maxLen; have := HH.out.2; omega) (by have := HH.out.2; omega) HH.out.1 (wt.heap.size + 1) (by simp) ?_; intro q cq w5 hown3 hgr3 hat3 hlt3; have HC : Hid (Q1 w4 w5 B2 (.slice (some ⟨q, 0, none⟩) ((keepL f g r k).length + 1) cq) (keepL f g r k ++ [f k])) := HB.out.add hown3 hgr3; clear hown3 hgr3 hat3 hlt3)
        go_roundw
        case rel => exact ⟨k + 1, by omega, by go_num, by rw [HK.out]; exact HC.out⟩
        case measure => simp [intOf]; omega
    · obtain rfl : n1 = k := by omega
      have H7 : Hid (Q1 w4 wr B2 u14 (backL g r 0)) := by
        have := HP.out
        rw [HR.out.1] at this
        exact this
      clear HP
      go_wp2_with fail
      go_loopw [16, 14] (fun i v wr => ∃ k : Nat, k ≤ n3 - r ∧ i = .int .i64 k ∧ Q1 w4 wr B2 v (backL g r k)) (fun i _ _ => n3 - r - (intOf i).toNat)
      case atStart => exact ⟨0, Nat.zero_le _, rfl, H7.out⟩
      case round =>
        obtain ⟨k, hk2, rfl, hP⟩ := hrel
        have HP : Hid (Q1 w4 wr B2 u14 (backL g r k)) := hP
        clear hP H7
        by_cases hlt2 : k < n3 - r
        · obtain ⟨qa, rfl, v0, v1⟩ := HA.out k hlt2
          have y0 := HP.out.chg.cell v0 (by simp)
          have y1 := HP.out.chg.cell v1 (by simp)
          have kn : (k : Int) < ((n3 - r : Nat) : Int) := by omega
          have kk : (0 : Int) ≤ (k : Int) := by omega
          clear v0 v1
          have HB : Hid (Q1 w4 (wr.alloc (.cells #[.string (g (r + k)).1, .string (g (r + k)).2] 31)) B2 u14 (backL g r k)) := HP.out.new (Chg.alloc _ _ _)
          have HN : Hid (∀ x u, ([.string (g (r + k)).1, .string (g (r + k)).2] : List Value)[x]? = some u → (wr.alloc (.cells #[.string (g (r + k)).1, .string (g (r + k)).2] 31)).cell? ((⟨wr.heap.size, 0, none⟩ : Addr).add x) = some u) := news_at1 _ _
          have HH : Hid (B2 ≤ (wr.alloc (.cells #[.string (g (r + k)).1, .string (g (r + k)).2] 31)).heap.size ∧ (backL g r k).length = r + k) := ⟨HB.out.lo.2, len_backL g r k⟩
          go_wp2_with (guard_target =~ wpList _ _ _ (⟨_, Op.call ⟨Callee.builtin Builtin.append, _, _⟩, _, _, _, _⟩ :: _) _ _; refine wpList_append_lies _ (by rfl) _ _ 25 (by rfl) B2 31 i0 _ 2 32 Trym.underlying25 hi hz0 hz1 hz2 (by rfl) (by decide) u14 (backL g r k).length (rowOf (backL g r k)) (by rfl) HB.out.own ⟨wr.heap.size, 0, none⟩ 1 1 [.string (g (r + k)).1, .string (g (r + k)).2] (by rfl) (by rfl) HN.out (by simp; exact ⟨rfl, rfl⟩) (by decide) (by unfold maxLen; have := HH.out.2; omega) (by have := HH.out.2; omega) HH.out.1 (wr.heap.size + 1) (by simp) ?_; intro q cq w5 hown3 hgr3 hat3 hlt3; have HC : Hid (Q1 w4 w5 B2 (.slice (some ⟨q, 0, none⟩) ((backL g r k).length + 1) cq) (backL g r k ++ [g (r + k)])) := HB.out.add hown3 hgr3; clear hown3 hgr3 hat3 hlt3)
          go_roundw
          case rel => exact ⟨k + 1, by omega, by go_num, by rw [backL_in]; exact HC.out⟩
          case measure => simp [intOf]; omega
        · obtain rfl : k = n3 - r := by omega
          obtain ⟨ob, cb, rfl, hB⟩ := HP.out.own.at
          rw [len_backL, show r + (n3 - r) = n3 by omega]
          have HO : Hid (Chg (fun _ => False) w4 wr ∧ ∀ i, i < n3 → ∃ q, ob = some ⟨q, 0, none⟩ ∧ wr.cell? ⟨q, i * 2, none⟩ = some (.string (g i).1) ∧ wr.cell? ⟨q, i * 2 + 1, none⟩ = some (.string (g i).2)) := ⟨HP.out.chg, fun i hi => hB i (g i) (by unfold backL; rw [List.getElem?_map, List.getElem?_range (by omega)]; rfl)⟩
          clear hB HP
          have xn : ¬ ((n3 - r : Nat) : Int) < ((n3 - r : Nat) : Int) := by omega
          go_wp2_with fail
          go_loopw [17] (fun i wq => ∃ k : Nat, k ≤ n3 ∧ i = .int .i64 k ∧ ∃ x, wq = wr.drewN x) (fun i _ => n3 - (intOf i).toNat)
          case atStart => exact ⟨0, Nat.zero_le _, rfl, 0, rfl⟩
          case round =>
            obtain ⟨k, hk3, rfl, x, rfl⟩ := hrel
            by_cases hlt3 : k < n3
            · obtain ⟨qb, rfl, v0, v1⟩ := HO.out.2 k hlt3
              obtain ⟨b2, off2, rfl, t0, t1⟩ := H5.out.2.2 k hlt3
              have y0 := HO.out.1.cell t0 (by simp)
              have y1 := HO.out.1.cell t1 (by simp)
              have kn : (k : Int) < (n3 : Int) := by omega
              have kk : (0 : Int) ≤ (k : Int) := by omega
              have z4 : eqC (g k) (g k) = true := eqC_true rfl
              clear t0 t1
              go_wp2_with fail
              go_quiet (fail)
              go_wp2
              go_roundw
              case rel => exact ⟨k + 1, by omega, by go_num, x + nq, rfl⟩
              case measure => simp [intOf]; omega
            · obtain rfl : n3 = k := by omega
              go_wp2_with fail
              go_ret
              exact ⟨rfl, (H5.out.1.trans (HO.out.1.trans (chg_drewN _ _ _))).toBelow⟩


end Go.Proofs.Qxb6600392aMods
