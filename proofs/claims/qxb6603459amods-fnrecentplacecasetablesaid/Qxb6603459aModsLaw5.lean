/- The case table of place. Own work. -/
import Derived.Test.Qxb6603459aModsLaw6
import Derived.Test.Qxb6603459aModsRd
import Derived.Deep.RegionHeld3
import Derived.Deep.DeepCutAuto
namespace Go.Proofs.Qxb6603459aMods
open Go.RowKit Go.MapFns
set_option linter.unusedVariables false

/-- where the case table stands behind place -/
structure P5 (w w7 : World) (R : Nat) (F' : Fl) (L' : List Ck) (cn : Nat) (K' : CkIn) (o1 o2 o3 o4 : Option Addr) (en dn : Nat) (ef db : Nat → Int) : Prop where
  rd : RdRep w7 R F' L'
  bel : Below w.heap.size w w7
  ck : ChunksIn w7 o2 cn K'
  e1 : ElemsIn w7 o1 en (i6 ef)
  e4 : ElemsIn w7 o4 en (i6 ef)
  dat : ElemsIn w7 o3 dn (byt db)
theorem P5.new {w w7 w8 : World} {R : Nat} {F' : Fl} {L' : List Ck} {cn : Nat} {K' : CkIn} {o1 o2 o3 o4 : Option Addr} {en dn : Nat} {ef db : Nat → Int} (h : P5 w w7 R F' L' cn K' o1 o2 o3 o4 en dn ef db) (hc : Chg (fun _ => False) w7 w8) : P5 w w8 R F' L' cn K' o1 o2 o3 o4 en dn ef db :=
  ⟨h.rd.new hc, h.bel.trans (hc.below h.bel.size (by simp)), h.ck.chg hc.toBelow (Nat.le_refl _), h.e1.chg hc (by simp), h.e4.chg hc (by simp), h.dat.chg hc (by simp)⟩

theorem Cl.lt {w w' : World} {o ao : Option Addr} {n : Nat} {e : TypeId} {f : Nat → Value} (h : Cl w w' o ao n e f) : ∀ b off, o = some ⟨b, off, none⟩ → b < w'.heap.size := by
  intro b off e
  rcases h with ⟨_, rfl, _, _⟩ | ⟨_, rfl, rfl⟩
  · cases e
  · simp at e; simp; omega

theorem p5_of {w w0 w1 w2 w3 w4 w5 w6 : World} {o1 o2 o3 o4 eo do_ : Option Addr} {cn en dn : Nat} {K' : CkIn} {db ef : Nat → Int} {F F' : Fl} {L L' : List Ck} (h1 : Cl w0 w1 o1 eo en 2 (i6 ef)) (h12 : Chg (fun _ => False) w1 w2) (hck : ChunksIn w2 o2 cn K') (h3 : Cl w2 w3 o3 do_ dn 5 (byt db)) (h4 : Cl w3 w4 o4 o1 en 2 (i6 ef))
    (hp : Pro w w5 w4.heap.size F L cn K' o3 dn db) (h45 : Below w4.heap.size w4 w5) (hrep : RecRep w6 w4.heap.size w4.heap.size F' L') (h56 : Below w4.heap.size w5 w6) : P5 w w6 w4.heap.size F' L' cn K' o1 o2 o3 o4 en dn ef db := by
  have c34 := h4.chg
  have c23 := h3.chg
  have b46 := h45.trans h56
  refine ⟨hrep.rd, hp.bel.trans (h56.mono hp.hB), ?_, ?_, ?_, ?_⟩
  · exact (hck.chg (c23.trans c34).toBelow (Nat.le_refl _)).chg b46 (Nat.le_refl _)
  · refine (h1.elems.chg ((h12.trans c23).trans c34) (by simp)).bel b46 ?_
    intro b off e
    have := h1.lt b off e
    have := ((h12.trans c23).trans c34).size
    omega
  · exact h4.elems.bel b46 h4.lt
  · refine (h3.elems.chg c34 (by simp)).bel b46 ?_
    intro b off e
    have := h3.lt b off e
    have := c34.size
    omega

/-- the chunks ahead of the last are as they were -/
theorem pre_place {F F' : Fl} {L L' : List Ck} {dn sz cn : Nat} {db : Nat → Int} {K' : CkIn} (hr : PlaceRes F L dn db sz F' L') (hl : ListIs L cn K') : ∀ k, k + 1 < cn → ∃ blk, L'[k]? = some ⟨K'.at_ k, K'.bs k, K'.bl k, (K'.cp k).toNat, blk⟩ := by
  intro k hk
  obtain ⟨blk, hb⟩ := hl.2 k (by omega)
  refine ⟨blk, ?_⟩
  rcases hr with ⟨L0, c, rfl, hfr, hfit, rfl, rfl⟩ | ⟨hway, cv, blk, rfl, rfl⟩
  · have := hl.1
    simp at this
    rw [List.getElem?_append_left (by omega)] at hb ⊢
    exact hb
  · rw [List.getElem?_append_left (by rw [hl.1]; omega)]
    exact hb

theorem holds_with (c : Ck) (dn : Nat) (db : Nat → Int) : Holds (withData c dn db) c.n dn c.bs db := ⟨rfl, fun i hi => by simp [withData, hi], fun i hi => by simp [withData]; omega⟩

attribute [local go_sem] eqnil35
set_option maxHeartbeats 4000000 in
set_option maxRecDepth 100000 in
theorem law5 (room first head start chunked next : Int) (fresh : Bool) (eo : Option Addr) (en ec : Nat) (co : Option Addr) (cn cc : Nat) (do_ : Option Addr) (dn dc : Nat) (ef : Nat → Int) (K : CkIn) (db : Nat → Int) (w : World)
    (he : ElemsIn w eo en (i6 ef)) (hez : eo = none → en = 0) (hc : ChunksIn w co cn K) (hcz : co = none → cn = 0) (hd : ElemsIn w do_ dn (byt db)) (hdz : do_ = none → dn = 0) (hel : en ≤ maxLen) (hcl : cn ≤ maxLen) (hdl : dn ≤ maxLen) (hroom : (Lit.int .i64 room).wf = true) :
    Calls Trym.prog 5 #[.int .i64 room, .int .u64 first, .slice eo en ec, .int .i64 head, .int .i64 start, .slice co cn cc, .int .i64 chunked, .int .i64 next, .bool fresh, .slice do_ dn dc] w fun e w' => e = .returned (.bool true) ∧ Below w.heap.size w w' := by
  have HI : Hid (ElemsIn w eo en (i6 ef) ∧ (eo = none → en = 0) ∧ ChunksIn w co cn K ∧ (co = none → cn = 0) ∧ ElemsIn w do_ dn (byt db) ∧ (do_ = none → dn = 0) ∧ en ≤ maxLen ∧ cn ≤ maxLen ∧ dn ≤ maxLen) := ⟨he, hez, hc, hcz, hd, hdz, hel, hcl, hdl⟩
  clear he hez hc hcz hd hdz hel hcl hdl
  go_enter Trym.func5, Trym.ntmps5
  go_wp2_with fail
  refine (zz15 room head start chunked next first fresh eo en ec co cn cc do_ dn dc K w HI.out.2.2.1 HI.out.2.2.2.2.2.2.1 HI.out.2.2.2.2.2.2.2.1 HI.out.2.2.2.2.2.2.2.2).mono ?_
  rintro e w' ⟨hyn, hw'⟩
  rw [hw']
  clear hw' w'
  rcases hyn with rfl | rfl
  rotate_left
  · go_wp2_with fail
    go_ret
    exact ⟨rfl, Below.refl _ _⟩
  go_wp2_with fail
  refine (sized16 eo en ec co cn cc do_ dn dc K w HI.out.2.2.1 HI.out.2.2.2.2.2.2.1 HI.out.2.2.2.2.2.2.2.1 HI.out.2.2.2.2.2.2.2.2).mono ?_
  rintro e w' ⟨hyn, hw'⟩
  rw [hw']
  clear hw' w'
  rcases hyn with ⟨rfl, hsz⟩ | rfl
  rotate_left
  · go_wp2_with fail
    go_ret
    exact ⟨rfl, Below.refl _ _⟩
  have HZ : Hid (Sized en cn dn K) := hsz
  clear hsz
  go_wp2_with fail
  refine (ints17 eo en ec ef w HZ.out.e HI.out.2.1 HI.out.1).mono ?_
  rintro e w1 ⟨o1, rfl, hcl1⟩
  have H1 : Hid (Cl w w1 o1 eo en 2 (i6 ef) ∧ Chg (fun _ => False) w w1) := ⟨hcl1, hcl1.chg⟩
  clear hcl1
  go_wp2_with fail
  refine (chunks18 co cn cc K w1 HZ.out.c HI.out.2.2.2.1 (HI.out.2.2.1.chg H1.out.2.toBelow (Nat.le_refl _)) (fun i hi => (HZ.out.k i hi).1)).mono ?_
  rintro e w2 ⟨o2, K', rfl, hn2, hch2, hck2, hsm2⟩
  have H2 : Hid (Chg (fun _ => False) w w2 ∧ ChunksIn w2 o2 cn K' ∧ CkSame K K' cn ∧ Chg (fun _ => False) w1 w2) := ⟨H1.out.2.trans hch2, hck2, hsm2, hch2⟩
  clear hn2 hch2 hck2 hsm2
  go_wp2_with fail
  refine (bytes19 do_ dn dc db w2 HZ.out.d HI.out.2.2.2.2.2.1 (HI.out.2.2.2.2.1.chg H2.out.1 (by simp))).mono ?_
  rintro e w3 ⟨o3, rfl, hcl3⟩
  have H3 : Hid (Cl w2 w3 o3 do_ dn 5 (byt db)) := hcl3
  clear hcl3
  go_wp2_with fail
  refine (ints17 o1 en en ef w3 HZ.out.e (fun h => HI.out.2.1 (by have := H1.out.1.isNone; rw [h] at this; simpa using this.symm)) ((H1.out.1.elems.chg H2.out.2.2.2 (by simp)).chg H3.out.chg (by simp))).mono ?_
  rintro e w4 ⟨o4, rfl, hcl4⟩
  have H4 : Hid (Cl w3 w4 o4 o1 en 2 (i6 ef)) := hcl4
  clear hcl4
  go_wp2_with fail
  refine (build20 w4 room first head start chunked next fresh o4 en en o2 cn cn K' (H2.out.2.1.chg (H3.out.chg.trans H4.out.chg).toBelow (Nat.le_refl _)) HZ.out.c (fun i hi => by have := HZ.out.k i hi; rw [← H2.out.2.2.1.bl, ← H2.out.2.2.1.cp] at this; exact this)).mono ?_
  rintro e w5 ⟨rfl, cv, L, hbld⟩
  have HP : Hid (Pro w w5 w4.heap.size ⟨room, first, .slice o4 en en, head, start, cv, chunked, next, fresh⟩ L cn K' o3 dn db) := pro_of H2.out.1 H3.out H4.out hbld
  have H45 : Hid (Below w4.heap.size w4 w5) := hbld.bel
  clear hbld
  go_wp2_with fail
  refine (place21 w5 _ _ _ L HP.out.rep HP.out.hB5 (by have := HP.out.is_.1; have := HZ.out.c; omega) (fun c hc => Nat.le_trans (HP.out.is_.cpLe (fun i hi => by rw [H2.out.2.2.1.cp]; exact (HZ.out.k i hi).2.2) c hc) (by decide)) o3 dn dn HZ.out.d db HP.out.dat (fun h => ⟨HP.out.dnil h, HP.out.dnil h⟩) HP.out.dlt (max (min 65536 room) dn).toNat (by show (((max (min 65536 room) dn).toNat : Nat) : Int) = max (min 65536 room) dn; omega)).mono ?_
  rintro e w6 ⟨rfl, F', L', hrep6, hres, hbel6⟩
  have HT : Hid (P5 w w6 w4.heap.size F' L' cn K' o1 o2 o3 o4 en dn ef db) := p5_of H1.out.1 H2.out.2.2.2 H2.out.2.1 H3.out H4.out HP.out H45.out hrep6 hbel6
  have HG : Hid (PlaceRes ⟨room, first, .slice o4 en en, head, start, cv, chunked, next, fresh⟩ L dn db (max (min 65536 room) dn).toNat F' L' ∧ ListIs L cn K' ∧ (∀ k, k + 1 < cn → ∃ blk, L'[k]? = some ⟨K'.at_ k, K'.bs k, K'.bl k, (K'.cp k).toNat, blk⟩) ∧ (∀ i, i < cn → K'.bl i ≤ 65536 ∧ (K'.bl i : Int) ≤ K'.cp i ∧ K'.cp i ≤ 65536)) :=
    ⟨hres, HP.out.is_, pre_place hres HP.out.is_, fun i hi => by have := HZ.out.k i hi; rw [← H2.out.2.2.1.bl, ← H2.out.2.2.1.cp] at this; exact this⟩
  have hnil : o4.isNone = o1.isNone := H4.out.isNone
  have hF : F'.room = room ∧ F'.first = first ∧ F'.ev = .slice o4 en en ∧ F'.head = head ∧ F'.start = start := by
    rcases hres with ⟨_, _, _, _, _, rfl, _⟩ | ⟨_, _, _, rfl, _⟩ <;> exact ⟨rfl, rfl, rfl, rfl, rfl⟩
  obtain ⟨hF0, hF1, hF2, hF3, hF4⟩ := hF
  have HL5 : Hid (L'.length ≤ 5000) := by have := len_place hres; have := HP.out.is_.1; have := HZ.out.c; unfold Hid; omega
  have hcn4 := HZ.out.c
  have hdn4 := HZ.out.d
  have hen4 := HZ.out.e
  clear hrep6 hres hbel6 HP H45 H4 H3 H2 H1
  go_wp2_with fail
  refine (rd22 w6 _ F' _ HT.out.rd).mono ?_
  rw [hF0, hF1, hF2, hF3, hF4]
  rintro e w7 ⟨rfl, hc7⟩
  have HT7 : Hid (P5 w w7 w4.heap.size F' L' cn K' o1 o2 o3 o4 en dn ef db) := HT.out.new hc7
  clear hc7 HT
  have b1 : (room != room) = false := by simp
  have b2 : (first != first) = false := by simp
  have b3 : (head != head) = false := by simp
  have b4 : (start != start) = false := by simp
  go_wp2_with fail
  refine (eq23 w7 o4 o1 en en en ef HT7.out.e4 HT7.out.e1 hen4).mono ?_
  rintro e w8 ⟨rfl, hc8⟩
  have HT8 : Hid (P5 w w8 w4.heap.size F' L' cn K' o1 o2 o3 o4 en dn ef db) := HT7.out.new hc8
  clear hc8 HT7 b1 b2 b3 b4 hnil hF0 hF1 hF2 hF3 hF4
  go_wp2_with fail
  go_loopw [31] (fun i wr => ∃ k : Nat, (k = 0 ∨ k + 1 ≤ cn) ∧ i = .int .i64 k ∧ P5 w wr w4.heap.size F' L' cn K' o1 o2 o3 o4 en dn ef db) (fun i _ => cn - (intOf i).toNat)
  case atStart => exact ⟨0, .inl rfl, rfl, HT8.out⟩
  case round =>
    obtain ⟨k, hk, rfl, hP⟩ := hrel
    have HP : Hid (P5 w wr w4.heap.size F' L' cn K' o1 o2 o3 o4 en dn ef db) := hP
    clear hP HT8
    have hkb : k ≤ 4096 := by omega
    by_cases hlt : k + 1 < cn
    · obtain ⟨b, off, rfl, d0, d1, d2, d3, _, _⟩ := HP.out.ck k (by omega)
      obtain ⟨g1, g2, g3⟩ := HG.out.2.2.2 k (by omega)
      obtain ⟨blk, hbk⟩ := HG.out.2.2.1 k hlt
      have ecp : ((K'.cp k).toNat : Int) = K'.cp k := by omega
      have h24 := match24 wr.drew w4.heap.size F' L' (HP.out.rd.new (Chg.drew _ wr)) (by have := HL5.out; omega) k _ hbk (K'.ba k) (K'.bl k) (K'.bc k) (K'.bs k) d3 none 0 0 (fun _ => 0) (fun i hi => by omega) ⟨rfl, fun i _ => rfl, fun i hi => by omega⟩ (by omega) (by omega)
      simp only [ecp] at h24
      have H24 : Hid (Calls _ _ _ _ _) := h24
      clear h24 hbk ecp d3
      have kk : (0 : Int) ≤ (k : Int) := by omega
      have kn : (k : Int) < (cn : Int) := by omega
      have kn2 : (k : Int) + 1 < (cn : Int) := by omega
      go_wp2_with fail
      go_region_held3 (fun w' => w'.cell? ⟨b, off + k * 3, none⟩ = some (.int .i64 (K'.at_ k)) ∧ w'.cell? ⟨b, off + k * 3 + 1, none⟩ = some (.slice (K'.ba k) (K'.bl k) (K'.bc k)) ∧ w'.cell? ⟨b, off + k * 3 + 2, none⟩ = some (.int .i64 (K'.cp k))) (go_keep)
        ((go_at_call 24; refine H24.out.mono ?_; rintro e wt ⟨rfl, hct⟩; have e0 := hct.cell (show wr.drew.cell? ⟨b, off + k * 3, none⟩ = _ from d0) (by simp); have e1 := hct.cell (show wr.drew.cell? ⟨b, off + k * 3 + 1, none⟩ = _ from d1) (by simp); have e2 := hct.cell (show wr.drew.cell? ⟨b, off + k * 3 + 2, none⟩ = _ from d2) (by simp); have HC : Hid (Chg (fun _ => False) wr wt) := (Chg.drew _ wr).trans hct; clear hct))
      go_wp2
      go_roundw
      case rel => exact ⟨k + 1, by omega, by go_num, HP.out.new HC.out⟩
      case measure => simp [intOf]; omega
    · clear hk
      cases cn with
      | zero =>
        rcases HG.out.1 with ⟨L0, c, hL, hfr, hfit, hF', hL'⟩ | ⟨hway, cv', blk', hF', hL'⟩
        · exact absurd HG.out.2.1.1 (by rw [hL]; simp)
        · have hlenL : L = [] := List.eq_nil_of_length_eq_zero HG.out.2.1.1
          subst hlenL
          obtain ⟨sz, hsz⟩ : ∃ sz : Nat, sz = (max (min 65536 room) (dn : Int)).toNat := ⟨_, rfl⟩
          rw [← hsz] at hF' hL'
          have HS : Hid ((sz : Int) = max (min 65536 room) (dn : Int)) := by unfold Hid; omega
          have e6 : F'.chunked = wrap64 (chunked + sz) := by rw [hF']
          have e8 : F'.fresh = false := by rw [hF']
          have e7 : F'.next = wrap64 (next + dn) := by rw [hF']; rfl
          have hln : ((L'.length : Nat) : Int) = 1 := by rw [hL']; simp
          have hjk : L'[0]? = some (withData ⟨next, fun _ => 0, 0, sz, blk'⟩ dn db) := by rw [hL']; rfl
          rw [e6, e7, e8]
          have HN : Hid (((L'.length : Nat) : Int) = 1 ∧ L'[0]? = some (withData ⟨next, fun _ => 0, 0, sz, blk'⟩ dn db)) := ⟨hln, hjk⟩
          clear hway hF' hL' e6 e7 e8 hln hjk hsz
          go_wp2_with fail
          go_quiet (fail)
          have HQ : Hid (P5 w (wr.drewN nq) w4.heap.size F' L' 0 K' o1 o2 o3 o4 en dn ef db) := HP.out.new (chg_drewN _ _ _)
          clear HP
          generalize wr.drewN nq = wq at *
          go_wp2_with fail
          go_quiet (fail)
          have HY : Hid (P5 w (wq.drewN nq) w4.heap.size F' L' 0 K' o1 o2 o3 o4 en dn ef db) := HQ.out.new (chg_drewN _ _ _)
          clear HQ
          generalize wq.drewN nq = wz at *
          by_cases hr1 : room < 65536
          · by_cases hr2 : room < (dn : Int)
            · have hs : (sz : Int) = dn := by have := HS.out; omega
              have h24 := match24 wz w4.heap.size F' L' HY.out.rd (by have := HL5.out; omega) (0) _ HN.out.2 o3 dn dn db HY.out.dat none 0 0 (fun _ => 0) (fun i hi => by omega) ⟨by simp [withData], fun i hi => by simp [withData], fun i hi => by omega⟩ (by omega) (by omega)
              simp only [withData, hs, Int.natCast_zero] at h24
              have H24 : Hid (Calls _ _ _ _ _) := h24
              clear h24
              simp only [hs]
              go_wp2_with fail
              refine (rd25 wz _ F' L' HY.out.rd).mono ?_
              rw [HN.out.1]
              rintro e w' ⟨rfl, hw'⟩
              rw [hw']
              clear hw' w'
              go_wp2_with (go_at_call 24; refine H24.out.mono ?_; rintro e wt ⟨rfl, hct⟩)
              go_ret
              exact ⟨rfl, (HY.out.new hct).bel⟩
            · have hs : (sz : Int) = room := by have := HS.out; omega
              have h24 := match24 wz w4.heap.size F' L' HY.out.rd (by have := HL5.out; omega) (0) _ HN.out.2 o3 dn dn db HY.out.dat none 0 0 (fun _ => 0) (fun i hi => by omega) ⟨by simp [withData], fun i hi => by simp [withData], fun i hi => by omega⟩ (by omega) (by omega)
              simp only [withData, hs, Int.natCast_zero] at h24
              have H24 : Hid (Calls _ _ _ _ _) := h24
              clear h24
              simp only [hs]
              go_wp2_with fail
              refine (rd25 wz _ F' L' HY.out.rd).mono ?_
              rw [HN.out.1]
              rintro e w' ⟨rfl, hw'⟩
              rw [hw']
              clear hw' w'
              go_wp2_with (go_at_call 24; refine H24.out.mono ?_; rintro e wt ⟨rfl, hct⟩)
              go_ret
              exact ⟨rfl, (HY.out.new hct).bel⟩
          · by_cases hr2 : (65536 : Int) < (dn : Int)
            · have hs : (sz : Int) = dn := by have := HS.out; omega
              have h24 := match24 wz w4.heap.size F' L' HY.out.rd (by have := HL5.out; omega) (0) _ HN.out.2 o3 dn dn db HY.out.dat none 0 0 (fun _ => 0) (fun i hi => by omega) ⟨by simp [withData], fun i hi => by simp [withData], fun i hi => by omega⟩ (by omega) (by omega)
              simp only [withData, hs, Int.natCast_zero] at h24
              have H24 : Hid (Calls _ _ _ _ _) := h24
              clear h24
              simp only [hs]
              go_wp2_with fail
              refine (rd25 wz _ F' L' HY.out.rd).mono ?_
              rw [HN.out.1]
              rintro e w' ⟨rfl, hw'⟩
              rw [hw']
              clear hw' w'
              go_wp2_with (go_at_call 24; refine H24.out.mono ?_; rintro e wt ⟨rfl, hct⟩)
              go_ret
              exact ⟨rfl, (HY.out.new hct).bel⟩
            · have hs : (sz : Int) = 65536 := by have := HS.out; omega
              have h24 := match24 wz w4.heap.size F' L' HY.out.rd (by have := HL5.out; omega) (0) _ HN.out.2 o3 dn dn db HY.out.dat none 0 0 (fun _ => 0) (fun i hi => by omega) ⟨by simp [withData], fun i hi => by simp [withData], fun i hi => by omega⟩ (by omega) (by omega)
              simp only [withData, hs, Int.natCast_zero] at h24
              have H24 : Hid (Calls _ _ _ _ _) := h24
              clear h24
              simp only [hs]
              go_wp2_with fail
              refine (rd25 wz _ F' L' HY.out.rd).mono ?_
              rw [HN.out.1]
              rintro e w' ⟨rfl, hw'⟩
              rw [hw']
              clear hw' w'
              go_wp2_with (go_at_call 24; refine H24.out.mono ?_; rintro e wt ⟨rfl, hct⟩)
              go_ret
              exact ⟨rfl, (HY.out.new hct).bel⟩
      | succ j =>
        obtain ⟨b, off, rfl, d0, d1, d2, d3, _, _⟩ := HP.out.ck j (by omega)
        obtain ⟨g1, g2, g3⟩ := HG.out.2.2.2 j (by omega)
        have ecp : ((K'.cp j).toNat : Int) = K'.cp j := by omega
        have HE : Hid (((K'.cp j).toNat : Int) = K'.cp j) := ecp
        clear ecp d3
        have z0 : (0 : Int) < (j : Int) + 1 := by omega
        have z1 : (j : Int) < (j : Int) + 1 := by omega
        have z2 : decide ((0 : Int) < (j : Int) + 1) = true := decide_eq_true z0
        rcases HG.out.1 with ⟨L0, c, hL, hfr, hfit, hF', hL'⟩ | ⟨hway, cv', blk', hF', hL'⟩
        · have hfr' : fresh = false := hfr
          subst hfr'
          obtain ⟨blkc, hjc⟩ := HG.out.2.1.2 j (by omega)
          have hlen : L0.length = j := by have := HG.out.2.1.1; rw [hL] at this; simpa using this
          rw [hL, List.getElem?_append_right (by omega)] at hjc
          simp [hlen] at hjc
          subst hjc
          have hfit' : (dn : Int) ≤ K'.cp j - (K'.bl j : Int) := by simp at hfit; have := HE.out; omega
          have y1 : decide ((dn : Int) ≤ K'.cp j - (K'.bl j : Int)) = true := decide_eq_true hfit'
          have e6 : F'.chunked = chunked := by rw [hF']
          have e7 : F'.next = wrap64 (next + dn) := by rw [hF']
          have e8 : F'.fresh = false := by rw [hF']
          have hln : ((L'.length : Nat) : Int) = (j : Int) + 1 := by rw [hL']; simp; omega
          have hjk : L'[j]? = some (withData ⟨K'.at_ j, K'.bs j, K'.bl j, (K'.cp j).toNat, blkc⟩ dn db) := by rw [hL', List.getElem?_append_right (by omega)]; simp [hlen]
          rw [e6, e7, e8]
          have HK : Hid (((L'.length : Nat) : Int) = (j : Int) + 1 ∧ L'[j]? = some (withData ⟨K'.at_ j, K'.bs j, K'.bl j, (K'.cp j).toNat, blkc⟩ dn db)) := ⟨hln, hjk⟩
          clear hL hfr hfit hlen hF' hL' e6 e7 e8 hln hjk
          go_wp2_with fail
          go_quiet (fail)
          have q0 : (wr.drewN nq).cell? ⟨b, off + j * 3, none⟩ = some (.int .i64 (K'.at_ j)) := d0
          have q1 : (wr.drewN nq).cell? ⟨b, off + j * 3 + 1, none⟩ = some (.slice (K'.ba j) (K'.bl j) (K'.bc j)) := d1
          have q2 : (wr.drewN nq).cell? ⟨b, off + j * 3 + 2, none⟩ = some (.int .i64 (K'.cp j)) := d2
          have HQ : Hid (P5 w (wr.drewN nq) w4.heap.size F' L' (j + 1) K' o1 (some ⟨b, off, none⟩) o3 o4 en dn ef db) := HP.out.new (chg_drewN _ _ _)
          clear d0 d1 d2 HP
          generalize wr.drewN nq = wq at *
          go_wp2_with (guard_target =~ wpList _ _ _ (⟨none, Op.store 51 _ _, _, _, _, _⟩ :: _) _ _; refine wpList_store_fresh (by rfl) 51 _ _ (by rfl) [_, _, _] (by rfl) (by rfl) _ 51 (by rfl) (by kernel_rfl) (by rfl) ?_; intro w2 hc2 hs2 hb2; have g0 : w2.cell? ⟨wq.heap.size, 0, none⟩ = some (.int .i64 (K'.at_ j)) := cell_of_row w2 _ 0 _ _ _ hb2; have g1 : w2.cell? ⟨wq.heap.size, 1, none⟩ = some (.slice (K'.ba j) (K'.bl j) (K'.bc j)) := cell_of_row w2 _ 1 _ _ _ hb2; have g2 : w2.cell? ⟨wq.heap.size, 2, none⟩ = some (.int .i64 (K'.cp j)) := cell_of_row w2 _ 2 _ _ _ hb2; have HR : Hid (P5 w w2 w4.heap.size F' L' (j + 1) K' o1 (some ⟨b, off, none⟩) o3 o4 en dn ef db) := HQ.out.new hc2; clear hc2 hs2 hb2 q0 q1 q2 HQ)
          refine (rd25 w2 _ F' L' HR.out.rd).mono ?_
          rw [HK.out.1]
          rintro e w' ⟨rfl, hw'⟩
          rw [hw']
          clear hw' w'
          obtain ⟨_, _, _, _, _, _, d3, _, _⟩ := HR.out.ck j (by omega)
          have h24 := match24 w2 w4.heap.size F' L' HR.out.rd (by have := HL5.out; omega) j _ HK.out.2 (K'.ba j) (K'.bl j) (K'.bc j) (K'.bs j) d3 o3 dn dn db HR.out.dat (holds_with _ dn db) (by omega) (by omega)
          simp only [withData, HE.out] at h24
          have H24 : Hid (Calls _ _ _ _ _) := h24
          clear h24 d3
          go_wp2_with (go_at_call 24; refine H24.out.mono ?_; rintro e wt ⟨rfl, hct⟩)
          go_ret
          exact ⟨rfl, (HR.out.new hct).bel⟩
        · obtain ⟨sz, hsz⟩ : ∃ sz : Nat, sz = (max (min 65536 room) (dn : Int)).toNat := ⟨_, rfl⟩
          rw [← hsz] at hF' hL'
          have HS : Hid ((sz : Int) = max (min 65536 room) (dn : Int)) := by unfold Hid; omega
          have e6 : F'.chunked = wrap64 (chunked + sz) := by rw [hF']
          have e8 : F'.fresh = false := by rw [hF']
          obtain ⟨blkc, hjc⟩ := HG.out.2.1.2 j (by omega)
          have hlenL : L.length = j + 1 := HG.out.2.1.1
          have hat : atNew ⟨room, first, .slice o4 en en, head, start, cv, chunked, next, fresh⟩ L = wrap64 (K'.at_ j + K'.cp j) := by
            have : L.getLast? = L[j]? := by rw [List.getLast?_eq_getElem?, hlenL]; rfl
            unfold atNew
            rw [this, hjc]
            simp only [HE.out]
          have e7 : F'.next = wrap64 (wrap64 (K'.at_ j + K'.cp j) + dn) := by rw [hF', hat]
          rw [hat] at hL'
          have hln : ((L'.length : Nat) : Int) = (j : Int) + 1 + 1 := by rw [hL']; simp; omega
          have hjk : L'[j + 1]? = some (withData ⟨wrap64 (K'.at_ j + K'.cp j), fun _ => 0, 0, sz, blk'⟩ dn db) := by rw [hL', List.getElem?_append_right (by omega)]; simp [hlenL]
          have hjp : L'[j]? = some ⟨K'.at_ j, K'.bs j, K'.bl j, (K'.cp j).toNat, blkc⟩ := by rw [hL', List.getElem?_append_left (by omega)]; exact hjc
          rw [e6, e7, e8]
          have HN : Hid (((L'.length : Nat) : Int) = (j : Int) + 1 + 1 ∧ L'[j + 1]? = some (withData ⟨wrap64 (K'.at_ j + K'.cp j), fun _ => 0, 0, sz, blk'⟩ dn db)) := ⟨hln, hjk⟩
          have HJ : Hid (L'[j]? = some ⟨K'.at_ j, K'.bs j, K'.bl j, (K'.cp j).toNat, blkc⟩) := hjp
          have hwy : fresh = true ∨ (fresh = false ∧ decide ((dn : Int) ≤ K'.cp j - (K'.bl j : Int)) = false) := by
            rcases hway with h | h | ⟨L0, c, h, h2⟩
            · rw [h] at hlenL; simp at hlenL
            · exact .inl h
            · cases hf : fresh
              · refine .inr ⟨rfl, decide_eq_false ?_⟩
                rw [h, List.getElem?_append_right (by rw [h] at hlenL; simp at hlenL; omega)] at hjc
                have : L0.length = j := by rw [h] at hlenL; simpa using hlenL
                simp [this] at hjc
                subst hjc
                simp at h2
                have := HE.out
                omega
              · exact .inl rfl
          clear hway hF' hL' e6 e7 e8 hln hjk hjp hjc hlenL hat hsz
          rcases hwy with rfl | ⟨rfl, y1⟩
          · go_wp2_with fail
            go_quiet (fail)
            have q0 : (wr.drewN nq).cell? ⟨b, off + j * 3, none⟩ = some (.int .i64 (K'.at_ j)) := d0
            have q1 : (wr.drewN nq).cell? ⟨b, off + j * 3 + 1, none⟩ = some (.slice (K'.ba j) (K'.bl j) (K'.bc j)) := d1
            have q2 : (wr.drewN nq).cell? ⟨b, off + j * 3 + 2, none⟩ = some (.int .i64 (K'.cp j)) := d2
            have HQ : Hid (P5 w (wr.drewN nq) w4.heap.size F' L' (j + 1) K' o1 (some ⟨b, off, none⟩) o3 o4 en dn ef db) := HP.out.new (chg_drewN _ _ _)
            clear d0 d1 d2 HP
            generalize wr.drewN nq = wq at *
            have d3 : ElemsIn wq (K'.ba j) (K'.bl j) (byt (K'.bs j)) := by obtain ⟨_, _, _, _, _, _, d3, _, _⟩ := HQ.out.ck j (by omega); exact d3
            have h24 := match24 wq.drew w4.heap.size F' L' (HQ.out.rd.new (Chg.drew _ wq)) (by have := HL5.out; omega) j _ HJ.out (K'.ba j) (K'.bl j) (K'.bc j) (K'.bs j) d3 none 0 0 (fun _ => 0) (fun i hi => by omega) ⟨rfl, fun i _ => rfl, fun i hi => by omega⟩ (by omega) (by omega)
            simp only [HE.out] at h24
            have H24 : Hid (Calls _ _ _ _ _) := h24
            clear h24 d3
            have kk : (0 : Int) ≤ (j : Int) := by omega
            have hwr2 : IntKind.i64.wrap (j : Int) = (j : Int) := by rw [IntKind.wrap_i64]; omega
            have kz : (j : Int) < ((j + 1 : Nat) : Int) := by omega
            have hwr : IntKind.i64.wrap ((j : Int) + 1 - 1) = (j : Int) := by rw [IntKind.wrap_i64]; omega
            go_wp2_with fail
            go_region_held3 (fun w' => w'.cell? ⟨b, off + j * 3, none⟩ = some (.int .i64 (K'.at_ j)) ∧ w'.cell? ⟨b, off + j * 3 + 1, none⟩ = some (.slice (K'.ba j) (K'.bl j) (K'.bc j)) ∧ w'.cell? ⟨b, off + j * 3 + 2, none⟩ = some (.int .i64 (K'.cp j))) (go_keep)
              ((go_at_call 24; refine H24.out.mono ?_; rintro e wt ⟨rfl, hct⟩; have e0 := hct.cell (show wq.drew.cell? ⟨b, off + j * 3, none⟩ = _ from q0) (by simp); have e1 := hct.cell (show wq.drew.cell? ⟨b, off + j * 3 + 1, none⟩ = _ from q1) (by simp); have e2 := hct.cell (show wq.drew.cell? ⟨b, off + j * 3 + 2, none⟩ = _ from q2) (by simp); have HC : Hid (Chg (fun _ => False) wq wt) := (Chg.drew _ wq).trans hct; clear hct))
            have HX : Hid (P5 w wt w4.heap.size F' L' (j + 1) K' o1 (some ⟨b, off, none⟩) o3 o4 en dn ef db) := HQ.out.new HC.out
            clear HQ HC H24
            go_wp2_with fail
            go_quiet (fail)
            have HY : Hid (P5 w (wt.drewN nq) w4.heap.size F' L' (j + 1) K' o1 (some ⟨b, off, none⟩) o3 o4 en dn ef db) := HX.out.new (chg_drewN _ _ _)
            clear e0 e1 e2 HX
            generalize wt.drewN nq = wz at *
            by_cases hr1 : room < 65536
            · by_cases hr2 : room < (dn : Int)
              · have hs : (sz : Int) = dn := by have := HS.out; omega
                have h24 := match24 wz w4.heap.size F' L' HY.out.rd (by have := HL5.out; omega) (j + 1) _ HN.out.2 o3 dn dn db HY.out.dat none 0 0 (fun _ => 0) (fun i hi => by omega) ⟨by simp [withData], fun i hi => by simp [withData], fun i hi => by omega⟩ (by omega) (by omega)
                simp only [withData, hs] at h24
                have H24 : Hid (Calls _ _ _ _ _) := h24
                clear h24
                simp only [hs]
                go_wp2_with fail
                refine (rd25 wz _ F' L' HY.out.rd).mono ?_
                rw [HN.out.1]
                rintro e w' ⟨rfl, hw'⟩
                rw [hw']
                clear hw' w'
                go_wp2_with (go_at_call 24; refine H24.out.mono ?_; rintro e wt ⟨rfl, hct⟩)
                go_ret
                exact ⟨rfl, (HY.out.new hct).bel⟩
              · have hs : (sz : Int) = room := by have := HS.out; omega
                have h24 := match24 wz w4.heap.size F' L' HY.out.rd (by have := HL5.out; omega) (j + 1) _ HN.out.2 o3 dn dn db HY.out.dat none 0 0 (fun _ => 0) (fun i hi => by omega) ⟨by simp [withData], fun i hi => by simp [withData], fun i hi => by omega⟩ (by omega) (by omega)
                simp only [withData, hs] at h24
                have H24 : Hid (Calls _ _ _ _ _) := h24
                clear h24
                simp only [hs]
                go_wp2_with fail
                refine (rd25 wz _ F' L' HY.out.rd).mono ?_
                rw [HN.out.1]
                rintro e w' ⟨rfl, hw'⟩
                rw [hw']
                clear hw' w'
                go_wp2_with (go_at_call 24; refine H24.out.mono ?_; rintro e wt ⟨rfl, hct⟩)
                go_ret
                exact ⟨rfl, (HY.out.new hct).bel⟩
            · by_cases hr2 : (65536 : Int) < (dn : Int)
              · have hs : (sz : Int) = dn := by have := HS.out; omega
                have h24 := match24 wz w4.heap.size F' L' HY.out.rd (by have := HL5.out; omega) (j + 1) _ HN.out.2 o3 dn dn db HY.out.dat none 0 0 (fun _ => 0) (fun i hi => by omega) ⟨by simp [withData], fun i hi => by simp [withData], fun i hi => by omega⟩ (by omega) (by omega)
                simp only [withData, hs] at h24
                have H24 : Hid (Calls _ _ _ _ _) := h24
                clear h24
                simp only [hs]
                go_wp2_with fail
                refine (rd25 wz _ F' L' HY.out.rd).mono ?_
                rw [HN.out.1]
                rintro e w' ⟨rfl, hw'⟩
                rw [hw']
                clear hw' w'
                go_wp2_with (go_at_call 24; refine H24.out.mono ?_; rintro e wt ⟨rfl, hct⟩)
                go_ret
                exact ⟨rfl, (HY.out.new hct).bel⟩
              · have hs : (sz : Int) = 65536 := by have := HS.out; omega
                have h24 := match24 wz w4.heap.size F' L' HY.out.rd (by have := HL5.out; omega) (j + 1) _ HN.out.2 o3 dn dn db HY.out.dat none 0 0 (fun _ => 0) (fun i hi => by omega) ⟨by simp [withData], fun i hi => by simp [withData], fun i hi => by omega⟩ (by omega) (by omega)
                simp only [withData, hs] at h24
                have H24 : Hid (Calls _ _ _ _ _) := h24
                clear h24
                simp only [hs]
                go_wp2_with fail
                refine (rd25 wz _ F' L' HY.out.rd).mono ?_
                rw [HN.out.1]
                rintro e w' ⟨rfl, hw'⟩
                rw [hw']
                clear hw' w'
                go_wp2_with (go_at_call 24; refine H24.out.mono ?_; rintro e wt ⟨rfl, hct⟩)
                go_ret
                exact ⟨rfl, (HY.out.new hct).bel⟩
          · go_wp2_with fail
            go_quiet (fail)
            have q0 : (wr.drewN nq).cell? ⟨b, off + j * 3, none⟩ = some (.int .i64 (K'.at_ j)) := d0
            have q1 : (wr.drewN nq).cell? ⟨b, off + j * 3 + 1, none⟩ = some (.slice (K'.ba j) (K'.bl j) (K'.bc j)) := d1
            have q2 : (wr.drewN nq).cell? ⟨b, off + j * 3 + 2, none⟩ = some (.int .i64 (K'.cp j)) := d2
            have HQ : Hid (P5 w (wr.drewN nq) w4.heap.size F' L' (j + 1) K' o1 (some ⟨b, off, none⟩) o3 o4 en dn ef db) := HP.out.new (chg_drewN _ _ _)
            clear d0 d1 d2 HP
            generalize wr.drewN nq = wq at *
            have d3 : ElemsIn wq (K'.ba j) (K'.bl j) (byt (K'.bs j)) := by obtain ⟨_, _, _, _, _, _, d3, _, _⟩ := HQ.out.ck j (by omega); exact d3
            have h24 := match24 wq.drew w4.heap.size F' L' (HQ.out.rd.new (Chg.drew _ wq)) (by have := HL5.out; omega) j _ HJ.out (K'.ba j) (K'.bl j) (K'.bc j) (K'.bs j) d3 none 0 0 (fun _ => 0) (fun i hi => by omega) ⟨rfl, fun i _ => rfl, fun i hi => by omega⟩ (by omega) (by omega)
            simp only [HE.out] at h24
            have H24 : Hid (Calls _ _ _ _ _) := h24
            clear h24 d3
            have kk : (0 : Int) ≤ (j : Int) := by omega
            have hwr2 : IntKind.i64.wrap (j : Int) = (j : Int) := by rw [IntKind.wrap_i64]; omega
            have kz : (j : Int) < ((j + 1 : Nat) : Int) := by omega
            have hwr : IntKind.i64.wrap ((j : Int) + 1 - 1) = (j : Int) := by rw [IntKind.wrap_i64]; omega
            go_wp2_with fail
            go_region_held3 (fun w' => w'.cell? ⟨b, off + j * 3, none⟩ = some (.int .i64 (K'.at_ j)) ∧ w'.cell? ⟨b, off + j * 3 + 1, none⟩ = some (.slice (K'.ba j) (K'.bl j) (K'.bc j)) ∧ w'.cell? ⟨b, off + j * 3 + 2, none⟩ = some (.int .i64 (K'.cp j))) (go_keep)
              ((go_at_call 24; refine H24.out.mono ?_; rintro e wt ⟨rfl, hct⟩; have e0 := hct.cell (show wq.drew.cell? ⟨b, off + j * 3, none⟩ = _ from q0) (by simp); have e1 := hct.cell (show wq.drew.cell? ⟨b, off + j * 3 + 1, none⟩ = _ from q1) (by simp); have e2 := hct.cell (show wq.drew.cell? ⟨b, off + j * 3 + 2, none⟩ = _ from q2) (by simp); have HC : Hid (Chg (fun _ => False) wq wt) := (Chg.drew _ wq).trans hct; clear hct))
            have HX : Hid (P5 w wt w4.heap.size F' L' (j + 1) K' o1 (some ⟨b, off, none⟩) o3 o4 en dn ef db) := HQ.out.new HC.out
            clear HQ HC H24
            go_wp2_with fail
            go_quiet (fail)
            have HY : Hid (P5 w (wt.drewN nq) w4.heap.size F' L' (j + 1) K' o1 (some ⟨b, off, none⟩) o3 o4 en dn ef db) := HX.out.new (chg_drewN _ _ _)
            clear e0 e1 e2 HX
            generalize wt.drewN nq = wz at *
            by_cases hr1 : room < 65536
            · by_cases hr2 : room < (dn : Int)
              · have hs : (sz : Int) = dn := by have := HS.out; omega
                have h24 := match24 wz w4.heap.size F' L' HY.out.rd (by have := HL5.out; omega) (j + 1) _ HN.out.2 o3 dn dn db HY.out.dat none 0 0 (fun _ => 0) (fun i hi => by omega) ⟨by simp [withData], fun i hi => by simp [withData], fun i hi => by omega⟩ (by omega) (by omega)
                simp only [withData, hs] at h24
                have H24 : Hid (Calls _ _ _ _ _) := h24
                clear h24
                simp only [hs]
                go_wp2_with fail
                refine (rd25 wz _ F' L' HY.out.rd).mono ?_
                rw [HN.out.1]
                rintro e w' ⟨rfl, hw'⟩
                rw [hw']
                clear hw' w'
                go_wp2_with (go_at_call 24; refine H24.out.mono ?_; rintro e wt ⟨rfl, hct⟩)
                go_ret
                exact ⟨rfl, (HY.out.new hct).bel⟩
              · have hs : (sz : Int) = room := by have := HS.out; omega
                have h24 := match24 wz w4.heap.size F' L' HY.out.rd (by have := HL5.out; omega) (j + 1) _ HN.out.2 o3 dn dn db HY.out.dat none 0 0 (fun _ => 0) (fun i hi => by omega) ⟨by simp [withData], fun i hi => by simp [withData], fun i hi => by omega⟩ (by omega) (by omega)
                simp only [withData, hs] at h24
                have H24 : Hid (Calls _ _ _ _ _) := h24
                clear h24
                simp only [hs]
                go_wp2_with fail
                refine (rd25 wz _ F' L' HY.out.rd).mono ?_
                rw [HN.out.1]
                rintro e w' ⟨rfl, hw'⟩
                rw [hw']
                clear hw' w'
                go_wp2_with (go_at_call 24; refine H24.out.mono ?_; rintro e wt ⟨rfl, hct⟩)
                go_ret
                exact ⟨rfl, (HY.out.new hct).bel⟩
            · by_cases hr2 : (65536 : Int) < (dn : Int)
              · have hs : (sz : Int) = dn := by have := HS.out; omega
                have h24 := match24 wz w4.heap.size F' L' HY.out.rd (by have := HL5.out; omega) (j + 1) _ HN.out.2 o3 dn dn db HY.out.dat none 0 0 (fun _ => 0) (fun i hi => by omega) ⟨by simp [withData], fun i hi => by simp [withData], fun i hi => by omega⟩ (by omega) (by omega)
                simp only [withData, hs] at h24
                have H24 : Hid (Calls _ _ _ _ _) := h24
                clear h24
                simp only [hs]
                go_wp2_with fail
                refine (rd25 wz _ F' L' HY.out.rd).mono ?_
                rw [HN.out.1]
                rintro e w' ⟨rfl, hw'⟩
                rw [hw']
                clear hw' w'
                go_wp2_with (go_at_call 24; refine H24.out.mono ?_; rintro e wt ⟨rfl, hct⟩)
                go_ret
                exact ⟨rfl, (HY.out.new hct).bel⟩
              · have hs : (sz : Int) = 65536 := by have := HS.out; omega
                have h24 := match24 wz w4.heap.size F' L' HY.out.rd (by have := HL5.out; omega) (j + 1) _ HN.out.2 o3 dn dn db HY.out.dat none 0 0 (fun _ => 0) (fun i hi => by omega) ⟨by simp [withData], fun i hi => by simp [withData], fun i hi => by omega⟩ (by omega) (by omega)
                simp only [withData, hs] at h24
                have H24 : Hid (Calls _ _ _ _ _) := h24
                clear h24
                simp only [hs]
                go_wp2_with fail
                refine (rd25 wz _ F' L' HY.out.rd).mono ?_
                rw [HN.out.1]
                rintro e w' ⟨rfl, hw'⟩
                rw [hw']
                clear hw' w'
                go_wp2_with (go_at_call 24; refine H24.out.mono ?_; rintro e wt ⟨rfl, hct⟩)
                go_ret
                exact ⟨rfl, (HY.out.new hct).bel⟩
end Go.Proofs.Qxb6603459aMods
