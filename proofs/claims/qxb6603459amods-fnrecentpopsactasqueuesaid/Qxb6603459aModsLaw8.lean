/- Pops act as a queue. Own work. -/
import Derived.Test.Qxb6603459aModsLaw7
import Derived.Test.Qxb6603459aModsQueue
namespace Go.Proofs.Qxb6603459aMods
open Go.RowKit Go.MapFns
set_option linter.unusedVariables false

attribute [local go_sem] eqnil35
theorem wrap64_idem (x : Int) : wrap64 (wrap64 x) = wrap64 x := by unfold wrap64; omega
def Fin8 (w wz : World) : Prop := ∀ w', Below wz.heap.size wz w' → Below w.heap.size w w'
theorem ElemsIn.win {w : World} {b n : Nat} {f g : Nat → Int} (h : ElemsIn w (some ⟨b, 0, none⟩) n (i6 f)) (k d : Nat) (hk : k + d ≤ n) (e : ∀ j, j < d → f (k + j) = g j) : ElemsIn w (some ⟨b, k, none⟩) d (i6 g) := by
  intro i hi
  refine ⟨b, k, rfl, ?_⟩
  rw [h.at0 (k + i) (by omega)]
  simp [i6, e i hi]

set_option maxHeartbeats 4000000 in
set_option maxRecDepth 100000 in
theorem law8 (room first head start chunked next : Int) (fresh : Bool) (eo : Option Addr) (en ec : Nat) (co : Option Addr) (cn cc : Nat) (pops : Int) (ef : Nat → Int) (K : CkIn) (w : World)
    (he : ElemsIn w eo en (i6 ef)) (hez : eo = none → en = 0) (hc : ChunksIn w co cn K) (hcz : co = none → cn = 0) (hel : en ≤ maxLen) (hcl : cn ≤ maxLen) (hhead : (Lit.int .i64 head).wf = true) (hchunked : (Lit.int .i64 chunked).wf = true) (hpops : (Lit.int .i64 pops).wf = true) (hfirst : (Lit.int .u64 first).wf = true) :
    Calls Trym.prog 8 #[.int .i64 room, .int .u64 first, .slice eo en ec, .int .i64 head, .int .i64 start, .slice co cn cc, .int .i64 chunked, .int .i64 next, .bool fresh, .int .i64 pops] w fun e w' => e = .returned (.bool true) ∧ Below w.heap.size w w' := by
  have HI : Hid (ElemsIn w eo en (i6 ef) ∧ (eo = none → en = 0) ∧ ChunksIn w co cn K ∧ (co = none → cn = 0) ∧ en ≤ maxLen ∧ cn ≤ maxLen) := ⟨he, hez, hc, hcz, hel, hcl⟩
  have HW : Hid (wrap64 chunked = chunked) := by
    simp [Lit.wf] at hchunked
    have hmin : IntKind.i64.min = -9223372036854775808 := by decide
    unfold Hid wrap64
    omega
  have HU : Hid (IntKind.u64.wrap first = first) := by
    simp [Lit.wf] at hfirst
    have hmin : IntKind.u64.min = 0 := by decide
    have hmax : IntKind.u64.max = 18446744073709551615 := by decide
    unfold Hid
    rw [IntKind.wrap_u64]
    omega
  clear he hez hc hcz hel hcl hchunked hhead hpops hfirst
  go_enter Trym.func8, Trym.ntmps8
  go_wp2_with fail
  refine (zz33 room head start chunked next first fresh eo en ec co cn cc pops K w HI.out.2.2.1 HI.out.2.2.2.2.1 HI.out.2.2.2.2.2).mono ?_
  rintro e w' ⟨hyn, hw'⟩
  rw [hw']
  clear hw' w'
  rcases hyn with rfl | rfl
  rotate_left
  · go_wp2_with fail
    go_ret
    exact ⟨rfl, Below.refl _ _⟩
  go_wp2_with fail
  refine (sized16 eo en ec co cn cc none 0 0 K w HI.out.2.2.1 HI.out.2.2.2.2.1 HI.out.2.2.2.2.2 (Nat.zero_le _)).mono ?_
  rintro e w' ⟨hyn, hw'⟩
  rw [hw']
  clear hw' w'
  rcases hyn with ⟨rfl, hsz⟩ | rfl
  rotate_left
  · go_wp2_with fail
    go_ret
    exact ⟨rfl, Below.refl _ _⟩
  have HZ : Hid (Sized en cn 0 K) := hsz
  clear hsz
  by_cases hneg : head < 0
  · have hn1 : decide (head < 0) = true := decide_eq_true hneg
    go_wp2_with fail
    go_ret
    exact ⟨rfl, Below.refl _ _⟩
  have hn1 : decide (head < 0) = false := decide_eq_false hneg
  by_cases hbig : (en : Int) ≤ head
  · have hn2 : decide ((en : Int) ≤ head) = true := decide_eq_true hbig
    go_wp2_with fail
    go_ret
    exact ⟨rfl, Below.refl _ _⟩
  obtain ⟨h, rfl⟩ : ∃ h : Nat, head = h := ⟨head.toNat, by omega⟩
  have hh : h < en := by omega
  have hen4 := HZ.out.e
  have hcn4 := HZ.out.c
  clear hneg hn1
  have hn1 : decide ((h : Int) < 0) = false := decide_eq_false (by omega)
  have hn2 : decide ((en : Int) ≤ (h : Int)) = false := decide_eq_false (by omega)
  clear hbig
  have hn3 : decide (en ≤ h) = false := decide_eq_false (by omega)
  have hn4 : ¬ en ≤ h := by omega
  by_cases hp1 : pops < 1
  · have hp2 : decide (pops < 1) = true := decide_eq_true hp1
    go_wp2_with fail
    go_ret
    exact ⟨rfl, Below.refl _ _⟩
  by_cases hp3 : (en : Int) - (h : Int) < pops
  · have hp2 : decide (pops < 1) = false := decide_eq_false hp1
    have hp4 : decide ((en : Int) - (h : Int) < pops) = true := decide_eq_true hp3
    go_wp2_with fail
    go_ret
    exact ⟨rfl, Below.refl _ _⟩
  obtain ⟨p, rfl⟩ : ∃ p : Nat, pops = p := ⟨pops.toNat, by omega⟩
  have hpp : 1 ≤ p ∧ h + p ≤ en := by omega
  clear hp1 hp3
  have hp2 : decide ((p : Int) < 1) = false := decide_eq_false (by omega)
  have hp4 : decide ((en : Int) - (h : Int) < (p : Int)) = false := decide_eq_false (by omega)
  go_wp2_with fail
  clear hn1 hn2 hp2 hp4 hn3 hn4
  go_loopw [21] (fun v wr => ∃ j : Nat, h + 1 ≤ j ∧ j ≤ en ∧ v = .int .i64 j ∧ (∀ x, h + 1 ≤ x → x < j → ef (x - 1) ≤ ef x) ∧ ∃ n, wr = w.drewN n) (fun v _ => en - (intOf v).toNat)
  case atStart => exact ⟨h + 1, Nat.le_refl _, hh, by go_num, fun x h1 h2 => by omega, 0, rfl⟩
  case round =>
    obtain ⟨j, hj1, hj2, rfl, hmo, n, rfl⟩ := hrel
    have HM : Hid (∀ x, h + 1 ≤ x → x < j → ef (x - 1) ≤ ef x) := hmo
    clear hmo
    by_cases hlt : j < en
    · obtain ⟨b, off, rfl, c1⟩ := HI.out.1 j hlt
      have c0 : w.cell? ⟨b, off + (j - 1), none⟩ = some (.int .i64 (ef (j - 1))) := by
        obtain ⟨b', off', e', c'⟩ := HI.out.1 (j - 1) (by omega)
        simp at e'
        obtain ⟨rfl, rfl⟩ := e'
        exact c'
      obtain ⟨g, rfl⟩ : ∃ g, j = g + 1 := ⟨j - 1, by omega⟩
      replace c0 : w.cell? ⟨b, off + g, none⟩ = some (.int .i64 (ef g)) := c0
      have y1 : (g : Int) + 1 < (en : Int) := by omega
      have y2 : (g : Int) < (en : Int) := by omega
      have y3 : (0 : Int) ≤ (g : Int) := by omega
      have y4 : ((g : Int) + 1).toNat = g + 1 := by omega
      by_cases hcmp : ef (g + 1) < ef g
      · have y5 : decide (ef (g + 1) < ef g) = true := decide_eq_true hcmp
        go_wp2_with fail
        go_quiet (fail)
        go_wp2_with fail
        go_ret
        exact ⟨rfl, below_drew' (below_drew' (Below.refl _ _) _) _⟩
      · have y5 : decide (ef (g + 1) < ef g) = false := decide_eq_false hcmp
        go_wp2_with fail
        go_quiet (fail)
        go_wp2
        go_roundw
        case rel => exact ⟨g + 1 + 1, by omega, by omega, by go_num, fun x h1 h2 => by
          rcases Nat.lt_or_ge x (g + 1) with hx | hx
          · exact HM.out x h1 hx
          · obtain rfl : x = g + 1 := by omega
            rw [Nat.add_sub_cancel]
            omega, n + nq, rfl⟩
        case measure => simp [intOf]; omega
    · obtain rfl : j = en := by omega
      have HF : Hid (Fin8 w (w.drewN n)) := fun w' hb => (below_drew' (Below.refl _ w) n).trans hb
      have HI2 : Hid (ElemsIn (w.drewN n) eo j (i6 ef) ∧ (eo = none → j = 0) ∧ ChunksIn (w.drewN n) co cn K ∧ (co = none → cn = 0) ∧ j ≤ maxLen ∧ cn ≤ maxLen) := HI.out
      clear HI
      generalize w.drewN n = wz at *
      go_wp2_with fail
      refine (ints17 eo j ec ef wz HZ.out.e HI2.out.2.1 HI2.out.1).mono ?_
      rintro e w1 ⟨o1, rfl, hcl1⟩
      have H1 : Hid (Cl wz w1 o1 eo j 2 (i6 ef) ∧ Chg (fun _ => False) wz w1) := ⟨hcl1, hcl1.chg⟩
      clear hcl1
      go_wp2_with fail
      refine (chunks18 co cn cc K w1 HZ.out.c HI2.out.2.2.2.1 (HI2.out.2.2.1.chg H1.out.2.toBelow (Nat.le_refl _)) (fun i hi => (HZ.out.k i hi).1)).mono ?_
      rintro e w2 ⟨o2, K', rfl, hn2, hch2, hck2, hsm2⟩
      have H2 : Hid (Chg (fun _ => False) wz w2 ∧ ChunksIn w2 o2 cn K' ∧ CkSame K K' cn ∧ Chg (fun _ => False) w1 w2) := ⟨H1.out.2.trans hch2, hck2, hsm2, hch2⟩
      clear hn2 hch2 hck2 hsm2
      go_wp2_with fail
      refine (ints17 o1 j j ef w2 HZ.out.e (fun h => HI2.out.2.1 (by have := H1.out.1.isNone; rw [h] at this; simpa using this.symm)) (H1.out.1.elems.chg H2.out.2.2.2 (by simp))).mono ?_
      rintro e w4 ⟨o4, rfl, hcl4⟩
      have H4 : Hid (Cl w2 w4 o4 o1 j 2 (i6 ef)) := hcl4
      clear hcl4
      go_wp2_with fail
      have HS : Hid (∀ i, i < cn → K'.bl i ≤ 65536 ∧ (K'.bl i : Int) ≤ K'.cp i ∧ K'.cp i ≤ 65536) := fun i hi => by have := HZ.out.k i hi; rw [← H2.out.2.2.1.bl, ← H2.out.2.2.1.cp] at this; exact this
      refine (build20 w4 room first (h : Int) start chunked next fresh o4 j j o2 cn cn K' (H2.out.2.1.chg (H4.out.chg).toBelow (Nat.le_refl _)) HZ.out.c HS.out).mono ?_
      rintro e w5 ⟨rfl, cv, L, hbld⟩
      obtain ⟨eo1, eo4, hpre⟩ := pre7_of H1.out.1 H2.out.2.2.2 H2.out.2.1 H4.out hbld (by omega)
      subst eo1 eo4
      have HP : Hid (Pre7 wz w5 w4.heap.size w2.heap.size ⟨room, first, .slice (some ⟨w2.heap.size, 0, none⟩) j j, (h : Int), start, cv, chunked, next, fresh⟩ L (some ⟨wz.heap.size, 0, none⟩) o2 j cn ef K') := hpre
      clear hpre hbld H4 H1 H2
      generalize w4.heap.size = R at *
      generalize w2.heap.size = eb at *
      generalize wz.heap.size = B at *
      go_wp2_with fail
      go_loopw [23] (fun v wr => ∃ i : Nat, i ≤ p ∧ v = .int .i64 i ∧ ((h + i < j ∧ ∃ k m' h' ef' cv' s, Q8 w5 wr R eb ⟨room, first, .slice (some ⟨eb, 0, none⟩) j j, (h : Int), start, cv, chunked, next, fresh⟩ L j h i ef k m' h' ef' cv' s) ∨ (h + i = j ∧ 0 < i ∧ Clr w5 wr R eb ⟨room, first, .slice (some ⟨eb, 0, none⟩) j j, (h : Int), start, cv, chunked, next, fresh⟩ i (ef (h + i - 1))))) (fun v _ => p - (intOf v).toNat)
      case atStart => exact ⟨0, Nat.zero_le _, rfl, .inl ⟨hh, _, _, _, _, _, _, Q8.start HP.out.st rfl rfl hh HW.out HU.out⟩⟩
      case round =>
        obtain ⟨i, hi, rfl, hst⟩ := hrel
        by_cases hlt : i < p
        · rcases hst with ⟨hx, k, m', h', ef', cv', s, hq⟩ | ⟨hx, hy, hz⟩
          rotate_left
          · omega
          have HQ : Hid (Q8 w5 wr R eb ⟨room, first, .slice (some ⟨eb, 0, none⟩) j j, (h : Int), start, cv, chunked, next, fresh⟩ L j h i ef k m' h' ef' cv' s) := hq
          have hL5 : (L.drop k).length ≤ 5000 := by rw [List.length_drop]; have := HP.out.is_.1; omega
          have hmm := hq.m
          have hle := hq.le
          clear hq
          have y1 : (i : Int) < (p : Int) := by omega
          go_wp2_with fail
          refine (pop30 wr R _ (L.drop k) eb m' j h' ef' (by omega) (by omega) rfl rfl HQ.out.st.fields HQ.out.st.ends HQ.out.st.cks hL5 (wrap64_idem _)).mono ?_
          rintro e w6 ⟨rfl, hres⟩
          have HN : Hid _ := HQ.out.step hx HM.out hres
          clear hres HQ
          go_wp2_with fail
          go_roundw
          case rel => exact ⟨i + 1, by omega, by go_num, by
            rcases HN.out with ⟨a, b⟩ | ⟨a, b⟩
            · exact .inr ⟨by omega, by omega, b⟩
            · exact .inl ⟨by omega, b⟩⟩
          case measure => simp [intOf]; omega
        · obtain rfl : i = p := by omega
          clear hlt
          have b1 : (room != room) = false := by simp
          have b4 : (next != next) = false := by simp
          have b5 : (fresh != fresh) = false := by simp
          obtain ⟨t, ht⟩ : ∃ t : Nat, t + 1 = h + i := ⟨h + i - 1, by omega⟩
          have ht1 : h + i - 1 = t := by omega
          have b3 : (ef t != ef t) = false := by simp
          have b2 : (IntKind.u64.wrap (first + (i : Int)) != IntKind.u64.wrap (first + (i : Int))) = false := by simp
          have ht2 : (h : Int) + (i : Int) - 1 = (t : Int) := by omega
          have ht3 : (t : Int) < (j : Int) := by omega
          have ht4 : (0 : Int) ≤ (t : Int) := by omega
          have hu : IntKind.u64.wrap (i : Int) = (i : Int) := by rw [IntKind.wrap_u64]; omega
          rw [ht1] at hst
          rcases hst with ⟨hx, k, m', h', ef', cv', s, hq⟩ | ⟨hx, hy, hz⟩
          rotate_left
          · have HO : Hid (_ ∧ _) := ⟨HP.out.own wr hz.1, hz.2⟩
            clear hz HP
            go_wp2_with fail
            refine (rd22 wr R _ [] (rd_nil HO.out.2 rfl)).mono ?_
            rintro e w7 ⟨rfl, hc7⟩
            have H7 : Hid (_ ∧ _) := ⟨HO.out.1.new hc7, hc7.blk HO.out.2 (by simp)⟩
            clear hc7 HO
            have c7 := H7.out.1.e1.at0 t (by omega)
            have x1 : (h : Int) + (i : Int) = (j : Int) := by omega
            have x2 : decide ((h : Int) + (i : Int) = (j : Int)) = true := decide_eq_true x1
            replace c7 : w7.cell? ⟨B, j - 1, none⟩ = some (.int .i64 (ef t)) := by rw [show j - 1 = t by omega]; exact c7
            go_wp2_with (go_at_call 31; refine (nil31 w7 R _ H7.out.2 rfl).mono ?_; rintro e w' ⟨rfl, hw'⟩; rw [hw']; clear hw')
            go_ret
            exact ⟨rfl, HF.out _ H7.out.1.bel⟩
          · obtain ⟨hdr, h2le, hss⟩ := hq.dr (by omega)
            rw [ht1] at hdr hss
            subst hss
            have HL : Hid (ListIs L cn K' ∧ Drops (ef t) L k) := ⟨HP.out.is_, hdr⟩
            have hst := hq.st
            rw [wsum_cap HL.out.1 hdr.le HS.out] at hst
            have hmm := hq.m
            have hle := hq.le
            have HO : Hid (_ ∧ _ ∧ _ ∧ _) := ⟨HP.out.own wr hst.chg, CksAt.rd hst.fields hst.cks, hst.ends, hq.el⟩
            clear hst HP hdr hq
            obtain ⟨d, hd⟩ : ∃ d, d = j - (h + i) := ⟨_, rfl⟩
            rw [← hd] at hmm HO
            subst hmm
            go_wp2_with fail
            refine (rd22 wr R _ (L.drop k) HO.out.2.1).mono ?_
            rintro e w7 ⟨rfl, hc7⟩
            have H7 : Hid (_ ∧ _ ∧ _ ∧ _) := ⟨HO.out.1.new hc7, HO.out.2.1.new hc7, HO.out.2.2.1.chg hc7 (by simp), HO.out.2.2.2⟩
            clear hc7 HO
            have c7 := H7.out.1.e1.at0 t (by omega)
            have x1 : ¬ (h : Int) + (i : Int) = (j : Int) := by omega
            have x2 : decide ((h : Int) + (i : Int) = (j : Int)) = false := decide_eq_false x1
            have x3 : decide ((h' : Int) < 0) = false := decide_eq_false (by omega)
            have x4 : decide ((h' : Int) + (d : Int) < 2 * (h' : Int)) = false := decide_eq_false (by omega)
            have H23 : Hid (Calls _ _ _ _ _) := eq23 w7.drew (some ⟨eb, h', none⟩) (some ⟨B, h + i, none⟩) d (j - h') d (fun x => ef (h + i + x)) ((H7.out.2.2.1.elems.chg (Chg.drew (fun _ => False) w7) (by simp)).win h' d (by omega) H7.out.2.2.2) (by rw [hd]; exact (H7.out.1.e1.chg (Chg.drew (fun _ => False) w7) (by simp)).from (h + i) (by omega)) (by omega)
            have y1 : (0 : Int) ≤ (h' : Int) := by omega
            have y2 : (h' : Int) ≤ (h' : Int) + (d : Int) := by omega
            have y3 : ¬ j = h' := by omega
            have y4 : (0 : Int) ≤ (h : Int) + (i : Int) := by omega
            have y5 : (h : Int) + (i : Int) ≤ (j : Int) := by omega
            have y6 : ¬ j = h + i := by omega
            have y7 : ((h : Int) + (i : Int)).toNat = h + i := by omega
            have y8 : j - (h + i) = d := hd.symm
            have y9 : IntKind.i64.wrap ((h : Int) + (i : Int)) = (h : Int) + (i : Int) := by rw [IntKind.wrap_i64]; omega
            clear hd
            go_wp2_with fail
            go_region_held3 (fun w' => w'.cell? ⟨B, t, none⟩ = some (.int .i64 (ef t))) (go_keep)
              ((go_at_call 23; refine H23.out.mono ?_; rintro e w8 ⟨rfl, hc8⟩; have e0 := hc8.cell (show w7.drew.cell? ⟨B, t, none⟩ = _ from c7) (by simp); have H8 : Hid (_ ∧ _) := ⟨H7.out.1.new ((Chg.drew _ w7).trans hc8), H7.out.2.1.new ((Chg.drew _ w7).trans hc8)⟩; clear hc8))
            have HK : Hid (KeptIn w8 R _ (L.drop k) o2 cn K' (ef t) k) := kept_of H8.out.2 H8.out.1 HL.out.1 HL.out.2 hcn4 HS.out
            clear H7 c7
            go_wp2_with fail
            refine (kept32 w8 R _ (L.drop k) o2 cn cn K' (ef t) k HK.out).mono ?_
            rintro e w9 ⟨rfl, hc9⟩
            have HB : Hid (Own7 wz w9 (some ⟨B, 0, none⟩) o2 j cn ef K') := H8.out.1.new hc9
            clear hc9 HK H8
            go_wp2_with fail
            go_ret
            exact ⟨rfl, HF.out _ HB.out.bel⟩

end Go.Proofs.Qxb6603459aMods
