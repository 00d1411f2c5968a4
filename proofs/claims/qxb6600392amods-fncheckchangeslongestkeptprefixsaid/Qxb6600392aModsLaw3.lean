/- What stays is the longest run of to that from holds in order. Own work. -/
import Derived.Test.Qxb6600392aModsI
import Derived.Deep.RegionHeld3
namespace Go.Proofs.Qxb6600392aMods
open Go.RowKit Go.MapFns
set_option linter.unusedVariables false

attribute [local go_sem high] eql31 neq31

set_option maxHeartbeats 4000000 in
set_option maxRecDepth 100000 in
theorem law3 (a1 a2 a3 a4 : Option Addr) (n1 n2 n3 n4 c1 c2 c3 c4 : Nat) (f1 f2 f3 f4 : Nat → ByteArray) (w : World) (e1 : ElemsIn w a1 n1 (str f1)) (e2 : ElemsIn w a2 n2 (str f2)) (e3 : ElemsIn w a3 n3 (str f3)) (e4 : ElemsIn w a4 n4 (str f4))
    (z1 : a1 = none → n1 = 0) (z3 : a3 = none → n3 = 0) (m1 : n1 ≤ maxLen) (m2 : n2 ≤ maxLen) (m3 : n3 ≤ maxLen) (m4 : n4 ≤ maxLen) :
    Calls Trym.prog 3 #[.slice a1 n1 c1, .slice a2 n2 c2, .slice a3 n3 c3, .slice a4 n4 c4] w fun e w' => e = .returned (.bool true) ∧ Below w.heap.size w w' := by
  have HI : Hid (ElemsIn w a1 n1 (str f1) ∧ ElemsIn w a2 n2 (str f2) ∧ ElemsIn w a3 n3 (str f3) ∧ ElemsIn w a4 n4 (str f4) ∧ (a1 = none → n1 = 0) ∧ (a3 = none → n3 = 0)) := ⟨e1, e2, e3, e4, z1, z3⟩
  have HM : Hid (n1 ≤ maxLen ∧ n2 ≤ maxLen ∧ n3 ≤ maxLen ∧ n4 ≤ maxLen) := ⟨m1, m2, m3, m4⟩
  clear e1 e2 e3 e4 z1 z3 m1 m2 m3 m4
  go_enter Trym.func3, Trym.ntmps3
  go_wp2_with fail
  refine (zz9 a1 a2 a3 a4 n1 n2 n3 n4 c1 c2 c3 c4 f1 f2 f3 f4 w HI.out.1 HI.out.2.1 HI.out.2.2.1 HI.out.2.2.2.1 HM.out.1 HM.out.2.1 HM.out.2.2.1 HM.out.2.2.2).mono ?_
  rintro e w' ⟨hyn, hw'⟩
  rw [hw']
  clear hw' w'
  rcases hyn with rfl | rfl
  rotate_left
  · go_wp2_with fail
    go_ret
    exact ⟨rfl, Below.refl _ _⟩
  by_cases s1 : n1 ≤ 4096
  rotate_left
  · go_wp2_with fail
    go_ret
    exact ⟨rfl, Below.refl _ _⟩
  by_cases s2 : n2 ≤ 4096
  rotate_left
  · go_wp2_with fail
    go_ret
    exact ⟨rfl, Below.refl _ _⟩
  by_cases s3 : n3 ≤ 4096
  rotate_left
  · go_wp2_with fail
    go_ret
    exact ⟨rfl, Below.refl _ _⟩
  by_cases s4 : n4 ≤ 4096
  rotate_left
  · go_wp2_with fail
    go_ret
    exact ⟨rfl, Below.refl _ _⟩

  go_wp2_with fail
  refine (bytes10 0 (.inr ⟨by omega, by omega⟩) a1 n1 c1 f1 w HI.out.1 s1).mono ?_
  rintro e w' ⟨⟨t1, rfl, ht1⟩, hw'⟩
  rw [hw']
  clear hw' w'
  go_wp2_with fail
  refine (bytes10 t1 ht1 a2 n2 c2 f2 w HI.out.2.1 s2).mono ?_
  rintro e w' ⟨⟨t2, rfl, ht2⟩, hw'⟩
  rw [hw']
  clear hw' w' ht1
  go_wp2_with fail
  refine (bytes10 t2 ht2 a3 n3 c3 f3 w HI.out.2.2.1 s3).mono ?_
  rintro e w' ⟨⟨t3, rfl, ht3⟩, hw'⟩
  rw [hw']
  clear hw' w' ht2
  go_wp2_with fail
  refine (bytes10 t3 ht3 a4 n4 c4 f4 w HI.out.2.2.2.1 s4).mono ?_
  rintro e w' ⟨⟨t4, rfl, ht4⟩, hw'⟩
  rw [hw']
  clear hw' w' ht3
  by_cases hneg : t4 < 0
  · go_wp2_with fail
    go_ret
    exact ⟨rfl, Below.refl _ _⟩
  by_cases he1 : n1 = n2
  rotate_left
  · have he2 : ¬ (n1 : Int) = (n2 : Int) := by omega
    go_wp2_with fail
    go_ret
    exact ⟨rfl, Below.refl _ _⟩
  subst he1
  by_cases he1 : n3 = n4
  rotate_left
  · have he2 : ¬ (n3 : Int) = (n4 : Int) := by omega
    go_wp2_with fail
    go_ret
    exact ⟨rfl, Below.refl _ _⟩
  subst he1
  clear ht4
  go_wp2_with fail
  refine (checks11 a1 a2 n1 c1 c2 (fun i => (f1 i, f2 i)) w s1 HI.out.2.2.2.2.1 HI.out.1 HI.out.2.1).mono ?_
  rintro e w1 ⟨o1, rfl, hc1, hk1⟩
  have H1 : Hid (Chg (fun _ => False) w w1 ∧ ChksIn w1 o1 n1 (fun i => (f1 i, f2 i))) := ⟨hc1, hk1⟩
  clear hc1 hk1
  go_wp2_with fail
  refine (checks11 a3 a4 n3 c3 c4 (fun i => (f3 i, f4 i)) w1 s3 HI.out.2.2.2.2.2 (HI.out.2.2.1.chg H1.out.1 (by simp)) (HI.out.2.2.2.1.chg H1.out.1 (by simp))).mono ?_
  rintro e w2 ⟨o2, rfl, hc2, hk2⟩
  generalize (fun i => (f1 i, f2 i)) = f at *
  generalize (fun i => (f3 i, f4 i)) = g at *
  have H2 : Hid (Chg (fun _ => False) w w2 ∧ ChksIn w2 o1 n1 f ∧ ChksIn w2 o2 n3 g) := ⟨H1.out.1.trans hc2, H1.out.2.new hc2, hk2⟩
  clear hc2 hk2 H1 HI HM
  go_wp2_with fail
  refine (distinct12 o1 n1 n1 f w2 s1 H2.out.2.1).mono ?_
  rintro e w' ⟨hd, mm, rfl⟩
  have H3 : Hid (Chg (fun _ => False) w (w2.drewN mm) ∧ ChksIn (w2.drewN mm) o1 n1 f ∧ ChksIn (w2.drewN mm) o2 n3 g) := ⟨H2.out.1.trans (chg_drewN _ _ _), H2.out.2.1.new (chg_drewN _ _ _), H2.out.2.2.new (chg_drewN _ _ _)⟩
  clear H2
  generalize w2.drewN mm = w3 at *
  rcases hd with ⟨rfl, hdis⟩ | rfl
  rotate_left
  · go_wp2_with fail
    go_ret
    exact ⟨rfl, H3.out.1.toBelow⟩
  have HD : Hid (Distinct f n1) := hdis
  clear hdis
  go_wp2_with fail
  refine (change13 o1 o2 n1 n1 n3 n3 f g w3 s1 s3 H3.out.2.1 H3.out.2.2).mono ?_
  rintro e w4 ⟨dv, av, B, rfl, hch⟩
  have H4 : Hid (Chg (fun _ => False) w w4 ∧ ChksIn w4 o1 n1 f ∧ ChksIn w4 o2 n3 g ∧ Own w4 B dv (dropL f g (runLen (oldOf f g n1) n3) n1) ∧ Own w4 B av (addL g (runLen (oldOf f g n1) n3) n3)) := ⟨H3.out.1.trans hch.chg, H3.out.2.1.new hch.chg, H3.out.2.2.new hch.chg, hch.drops, hch.adds⟩
  clear hch H3
  have HR : Hid (gp f g n3 n1 = runLen (oldOf f g n1) n3 ∧ runLen (oldOf f g n1) n3 ≤ n3) := ⟨gp_eq HD.out, runLen_le _ _⟩
  generalize runLen (oldOf f g n1) n3 = r at *
  have hr3 := HR.out.2
  obtain ⟨oa, ca, rfl, hA⟩ := H4.out.2.2.2.2.at
  obtain ⟨od, cd, rfl, hDr⟩ := H4.out.2.2.2.1.at
  rw [len_addL]
  generalize hdl : (dropL f g r n1).length = dl
  have HA : Hid (∀ i, i < n3 - r → ∃ q, oa = some ⟨q, 0, none⟩ ∧ w4.cell? ⟨q, i * 2, none⟩ = some (.string (g (r + i)).1) ∧ w4.cell? ⟨q, i * 2 + 1, none⟩ = some (.string (g (r + i)).2)) := fun i hi => hA i (g (r + i)) (by unfold addL; rw [List.getElem?_map, List.getElem?_range (by omega)]; rfl)
  have HDr : Hid (_ ∧ _) := And.intro hDr hdl
  clear hA hDr hdl
  have hdl1 : dl ≤ n1 := by have := len_dropL f g r n1; have := HDr.out.2; omega
  go_wp2_with fail
  go_loopw [14, 15] (fun p i wr => ∃ k : Nat, k ≤ n1 ∧ i = .int .i64 k ∧ p = .int .i64 (gp f g n3 k : Nat) ∧ ∃ x, wr = w4.drewN x) (fun _ i _ => n1 - (intOf i).toNat)
  case atStart => exact ⟨0, Nat.zero_le _, rfl, rfl, 0, rfl⟩
  case round =>
    obtain ⟨k, hk, rfl, rfl, x, rfl⟩ := hrel
    by_cases hlt : k < n1
    · obtain ⟨b1, off1, rfl, x0, x1⟩ := H4.out.2.1 k hlt
      have kn : (k : Int) < (n1 : Int) := by omega
      have kk : (0 : Int) ≤ (k : Int) := by omega
      have HG : Hid (gp f g n3 (k + 1) = if gp f g n3 k < n3 ∧ f k = g (gp f g n3 k) then gp f g n3 k + 1 else gp f g n3 k) := by unfold Hid; rw [gp]
      have hple := gp_le f g n3 k
      generalize gp f g n3 k = p at *
      by_cases hpm : p < n3
      · obtain ⟨b2, off2, rfl, y0, y1⟩ := H4.out.2.2.1 p hpm
        have pn : (p : Int) < (n3 : Int) := by omega
        have pz : decide ((p : Int) < (n3 : Int)) = true := decide_eq_true pn
        cases he : eqC (f k) (g p)
        · have HE : Hid (gp f g n3 (k + 1) = p) := by
            unfold Hid; rw [HG.out, if_neg (fun h => by rw [eqC_true h.2] at he; cases he)]
          go_wp2_with fail
          go_quiet (fail)
          go_wp2
          go_roundw
          case rel => exact ⟨k + 1, by omega, by go_num, by rw [HE.out], x + nq, rfl⟩
          case measure => simp [intOf]; omega
        · have HE : Hid (gp f g n3 (k + 1) = p + 1) := by
            unfold Hid; rw [HG.out, if_pos ⟨hpm, (eqC_iff _ _).1 he⟩]
          go_wp2_with fail
          go_quiet (fail)
          go_wp2
          go_roundw
          case rel => exact ⟨k + 1, by omega, by go_num, by rw [HE.out]; go_num, x + nq, rfl⟩
          case measure => simp [intOf]; omega
      · have pz : decide ((p : Int) < (n3 : Int)) = false := decide_eq_false (by omega)
        have HE : Hid (gp f g n3 (k + 1) = p) := by unfold Hid; rw [HG.out, if_neg (fun h => hpm h.1)]
        go_wp2_with fail
        go_quiet (fail)
        go_wp2
        go_roundw
        case rel => exact ⟨k + 1, by omega, by go_num, by rw [HE.out], x + nq, rfl⟩
        case measure => simp [intOf]; omega
    · obtain rfl : n1 = k := by omega
      rw [HR.out.1]
      have ee : ((n3 - r : Nat) : Int) = (n3 : Int) - (r : Int) := by omega
      go_wp2_with fail
      go_loopw [16] (fun i wr => ∃ k : Nat, k ≤ n3 - r ∧ i = .int .i64 k ∧ ∃ x, wr = w4.drewN x) (fun i _ => n3 - r - (intOf i).toNat)
      case atStart => exact ⟨0, Nat.zero_le _, rfl, x, rfl⟩
      case round =>
        obtain ⟨k, hk2, rfl, x2, rfl⟩ := hrel
        by_cases hlt2 : k < n3 - r
        · obtain ⟨q, rfl, y0, y1⟩ := HA.out k hlt2
          obtain ⟨b2, off2, rfl, v0, v1⟩ := H4.out.2.2.1 (r + k) (by omega)
          have q1 : (k : Int) < (n3 : Int) - (r : Int) := by omega
          have q2 : (0 : Int) ≤ (k : Int) := by omega
          have q3 : (0 : Int) ≤ (r : Int) + (k : Int) := by omega
          have q4 : (r : Int) + (k : Int) < (n3 : Int) := by omega
          have q5 : ((r : Int) + (k : Int)).toNat = r + k := by omega
          have q6 : eqC (g (r + k)) (g (r + k)) = true := eqC_true rfl
          go_wp2_with fail
          go_quiet (fail)
          go_wp2
          go_roundw
          case rel => exact ⟨k + 1, by omega, by go_num, x2 + nq, rfl⟩
          case measure => simp [intOf]; omega
        · have q1 : ¬ (k : Int) < (n3 : Int) - (r : Int) := by omega
          have hz : n3 = 0 ∨ ∃ b2 off2, o2 = some ⟨b2, off2, none⟩ := by
            rcases Nat.eq_zero_or_pos n3 with h | h
            · exact .inl h
            · obtain ⟨b2, off2, e, _⟩ := H4.out.2.2.1 0 h
              exact .inr ⟨b2, off2, e⟩
          have hsl : ∀ wx : World, (Instr.slice 25 (.slice o2 n3 n3) none (some (.int .i64 (r : Int))) none).run Trym.prog wx = .ok (.slice o2 r n3) wx := fun wx => slice25 o2 n3 r hr3 hz wx
          clear hz
          go_wp2_with fail
          clear q1 hlt2 hk2 ee
          go_loopw [17, 18] (fun j i wr => ∃ k : Nat, k ≤ n1 ∧ i = .int .i64 k ∧ j = .int .i64 ((dropL f g r k).length : Nat) ∧ Chg (fun _ => False) w4 wr) (fun _ i _ => n1 - (intOf i).toNat)
          case atStart => exact ⟨0, Nat.zero_le _, rfl, rfl, chg_drewN _ _ _⟩
          case round =>
            obtain ⟨k, hk3, rfl, rfl, hC⟩ := hrel
            have HC : Hid (Chg (fun _ => False) w4 wr) := hC
            clear hC
            by_cases hlt3 : k < n1
            · obtain ⟨b1, off1, rfl, v0, v1⟩ := H4.out.2.1 k hlt3
              have x0 := HC.out.cell v0 (by simp)
              have x1 := HC.out.cell v1 (by simp)
              have y1 : (k : Int) < (n1 : Int) := by omega
              have y2 : (0 : Int) ≤ (k : Int) := by omega
              have y3 : (r : Int) ≤ (n3 : Int) := by omega
              have y4 : (0 : Int) ≤ (r : Int) := by omega
              clear v0 v1
              have H14 : Hid (Calls _ _ _ _ _) := has14 _ r n3 g (f k) wr.drew (by omega) (fun i hi => (H4.out.2.2.1.new (HC.out.trans (Chg.drew _ wr))) i (by omega))
              go_wp2_with fail
              go_region_held3 (fun w' => w'.cell? ⟨b1, off1 + k * 2, none⟩ = some (.string (f k).1) ∧ w'.cell? ⟨b1, off1 + k * 2 + 1, none⟩ = some (.string (f k).2)) (go_keep)
                ((go_at_call 14; refine H14.out.mono ?_; rintro e wt ⟨rfl, hct⟩; have e0 := hct.cell (show wr.drew.cell? ⟨b1, off1 + k * 2, none⟩ = _ from x0) (by simp); have e1 := hct.cell (show wr.drew.cell? ⟨b1, off1 + k * 2 + 1, none⟩ = _ from x1) (by simp); have HC2 : Hid (Chg (fun _ => False) w4 wt) := HC.out.trans ((Chg.drew _ wr).trans hct); clear hct))
              clear H14 x0 x1 HC
              cases hb : hasB g (f k) r
              · obtain ⟨q, rfl, c0, c1⟩ := HDr.out.1 _ _ (drop_at hlt3 hb)
                have d0 := HC2.out.cell c0 (by simp)
                have d1 := HC2.out.cell c1 (by simp)
                have hlen := len_drop_lt hlt3 hb
                rw [HDr.out.2] at hlen
                have HN : Hid ((dropL f g r (k + 1)).length = (dropL f g r k).length + 1) := by unfold Hid; rw [dropL_in f g r k hb]; simp
                clear hb c0 c1
                generalize (dropL f g r k).length = j at *
                have z1 : (j : Int) < (dl : Int) := by omega
                have z2 : (0 : Int) ≤ (j : Int) := by omega
                have z3 : decide ((dl : Int) ≤ (j : Int)) = false := decide_eq_false (by omega)
                have z4 : eqC (f k) (f k) = true := eqC_true rfl
                go_wp2_with fail
                go_quiet (fail)
                go_wp2
                go_roundw
                case rel => exact ⟨k + 1, by omega, by go_num, by rw [HN.out]; go_num, HC2.out.trans (chg_drewN _ _ _)⟩
                case measure => simp [intOf]; omega
              · have HN : Hid (dropL f g r (k + 1) = dropL f g r k) := dropL_out f g r k hb
                clear hb
                go_wp2
                go_roundw
                case rel => exact ⟨k + 1, by omega, by go_num, by rw [HN.out], HC2.out⟩
                case measure => simp [intOf]; omega
            · obtain rfl : n1 = k := by omega
              rw [HDr.out.2]
              go_wp2_with fail
              go_ret
              exact ⟨rfl, (H4.out.1.trans HC.out).toBelow⟩


end Go.Proofs.Qxb6600392aMods
