import Derived.Test.Qxb6603459aModsRecI
namespace Go.Proofs.Qxb6603459aMods
open Go.RowKit Go.MapFns
set_option linter.unusedVariables false

theorem len_place {F F' : Fl} {L L' : List Ck} {dn sz : Nat} {db : Nat → Int} (hr : PlaceRes F L dn db sz F' L') : L'.length ≤ L.length + 1 := by
  rcases hr with ⟨L0, c, rfl, hfr, hfit, rfl, rfl⟩ | ⟨hway, cv, blk, rfl, rfl⟩ <;> simp

theorem cp_place {F F' : Fl} {L L' : List Ck} {dn sz : Nat} {db : Nat → Int} (hr : PlaceRes F L dn db sz F' L') (h1 : ∀ c ∈ L, c.cp ≤ 1048576) (h2 : sz ≤ 1048576) : ∀ c ∈ L', c.cp ≤ 1048576 := by
  rcases hr with ⟨L0, c, rfl, hfr, hfit, rfl, rfl⟩ | ⟨hway, cv, blk, rfl, rfl⟩
  · intro x hx
    rcases List.mem_append.1 hx with h | h
    · exact h1 x (by simp [h])
    · simp at h
      subst h
      exact h1 c (by simp)
  · intro x hx
    rcases List.mem_append.1 hx with h | h
    · exact h1 x h
    · simp at h
      subst h
      exact h2

theorem acc_of_wf {cn : Nat} {K K' : CkIn} {chunked next : Int} {fresh : Bool} {L : List Ck} {F : Fl} (hw : Wf cn K chunked next fresh) (hs : CkSame K K' cn) (hl : ListIs L cn K') (hcp : ∀ i, i < cn → 0 ≤ K.cp i) (h1 : F.chunked = chunked) (h2 : F.next = next) (h3 : F.fresh = fresh) : AccL F L := by
  have get : ∀ i c, L[i]? = some c → i < cn ∧ c.at_ = K.at_ i ∧ (c.cp : Int) = K.cp i ∧ c.n = K.bl i := by
    intro i c hc
    have hi : i < cn := by
      rcases Nat.lt_or_ge i cn with h | h
      · exact h
      · rw [List.getElem?_eq_none (by rw [hl.1]; exact h)] at hc; cases hc
    obtain ⟨blk, hb⟩ := hl.2 i hi
    rw [hb] at hc
    simp at hc
    subst hc
    have := hcp i hi
    refine ⟨hi, by rw [hs.at_], ?_, by rw [hs.bl]⟩
    show ((K'.cp i).toNat : Int) = _
    rw [hs.cp]
    omega
  refine ⟨?_, ?_, ?_⟩
  · intro k a b ha hb
    obtain ⟨_, e1, e2, _⟩ := get k a ha
    obtain ⟨hk, e3, _, _⟩ := get (k + 1) b hb
    rw [e1, e2, e3]
    exact hw.link k hk
  · rw [h1, ← hw.sum, hl.1]
    refine wsum_congr _ fun i hi => ?_
    obtain ⟨blk, hb⟩ := hl.2 i hi
    rw [hb]
    exact (get i _ hb).2.2.1
  · intro c hc hf
    rw [List.getLast?_eq_getElem?, hl.1] at hc
    obtain ⟨hi, e1, _, e3⟩ := get _ c hc
    rw [h2, e1, e3]
    exact hw.last (cn - 1) (by omega) (by rw [← h3]; exact hf)

/-- where the laws on place stand when 'recent' is built -/
structure Pro (w w5 : World) (B : Nat) (F : Fl) (L : List Ck) (cn : Nat) (K' : CkIn) (o3 : Option Addr) (dn : Nat) (db : Nat → Int) : Prop where
  rep : RecRep w5 B B F L
  is_ : ListIs L cn K'
  bel : Below w.heap.size w w5
  hB : w.heap.size ≤ B
  hB5 : B ≤ w5.heap.size
  dat : ElemsIn w5 o3 dn (byt db)
  dlt : ∀ b off, o3 = some ⟨b, off, none⟩ → b < B
  dnil : o3 = none → dn = 0

theorem pro_of {w w2 w3 w4 w5 : World} {o3 do_ o4 o1 : Option Addr} {cn en : Nat} {K' : CkIn} {dn : Nat} {db ef : Nat → Int} {room first head start chunked next : Int} {fresh : Bool} {ev cv : Value} {L : List Ck}
    (h2 : Chg (fun _ => False) w w2) (h3 : Cl w2 w3 o3 do_ dn 5 (byt db)) (h4 : Cl w3 w4 o4 o1 en 2 (i6 ef)) (h5 : BldR w4 w5 cn K' room first head start chunked next fresh ev cv L) :
    Pro w w5 w4.heap.size ⟨room, first, ev, head, start, cv, chunked, next, fresh⟩ L cn K' o3 dn db := by
  have c3 := h3.chg
  have c4 := h4.chg
  have c24 := (h2.trans c3).trans c4
  have dlt : ∀ b off, o3 = some ⟨b, off, none⟩ → b < w4.heap.size := by
    intro b off e
    rcases h3 with ⟨_, rfl, _, _⟩ | ⟨_, rfl, rfl⟩
    · cases e
    · simp at e
      have := c4.size
      simp at this
      omega
  refine ⟨h5.rep, h5.is_, (c24.toBelow).trans (h5.bel.mono c24.size), c24.size, h5.bel.size, ?_, dlt, ?_⟩
  · intro i hi
    obtain ⟨b, off, e, hcell⟩ := (h3.elems.chg c4 (by simp)) i hi
    exact ⟨b, off, e, by rw [h5.bel.cell (dlt b off e)]; exact hcell⟩
  · intro e
    rcases h3 with ⟨_, _, h0, _⟩ | ⟨_, rfl, _⟩
    · exact h0
    · cases e

theorem ListIs.cpLe {L : List Ck} {n : Nat} {K : CkIn} (h : ListIs L n K) (hk : ∀ i, i < n → K.cp i ≤ 65536) : ∀ c ∈ L, c.cp ≤ 65536 := by
  intro c hc
  obtain ⟨i, hi, e⟩ := List.getElem_of_mem hc
  rw [h.1] at hi
  obtain ⟨blk, hb⟩ := h.2 i hi
  rw [List.getElem?_eq_getElem (by rw [h.1]; exact hi), e] at hb
  simp at hb
  subst hb
  have := hk i hi
  show (K.cp i).toNat ≤ 65536
  omega

/-- where the law on accounts stands behind place -/
structure Pst (w w7 : World) (B : Nat) (F' : Fl) (L0 : List Ck) (c : Ck) (o3 : Option Addr) (dn : Nat) (db : Nat → Int) : Prop where
  rep : RecRep w7 B B F' (L0 ++ [c])
  acc : AccL F' (L0 ++ [c])
  bel : Below w.heap.size w w7
  dat : ElemsIn w7 o3 dn (byt db)
  len : L0.length ≤ 4096
  bs : ∀ i, i < dn → c.bs (c.n - dn + i) = db i
  cps : c.cp ≤ 1048576
theorem Pst.new {w w7 w8 : World} {B : Nat} {F' : Fl} {L0 : List Ck} {c : Ck} {o3 : Option Addr} {dn : Nat} {db : Nat → Int} (h : Pst w w7 B F' L0 c o3 dn db) (hc : Chg (fun _ => False) w7 w8) : Pst w w8 B F' L0 c o3 dn db :=
  ⟨h.rep.chg (hc.mono fun _ _ h => h.elim), h.acc, h.bel.trans (hc.below h.bel.size (by simp)), h.dat.chg hc (by simp), h.len, h.bs, h.cps⟩

def capF (L : List Ck) : Nat → Int := fun i => ((L[i]?).map (fun c => (c.cp : Int))).getD 0

set_option maxHeartbeats 4000000 in
set_option maxRecDepth 100000 in
theorem law6 (room first head start chunked next : Int) (fresh : Bool) (eo : Option Addr) (en ec : Nat) (co : Option Addr) (cn cc : Nat) (do_ : Option Addr) (dn dc : Nat) (ef : Nat → Int) (K : CkIn) (db : Nat → Int) (w : World)
    (he : ElemsIn w eo en (i6 ef)) (hez : eo = none → en = 0) (hc : ChunksIn w co cn K) (hcz : co = none → cn = 0) (hd : ElemsIn w do_ dn (byt db)) (hdz : do_ = none → dn = 0) (hel : en ≤ maxLen) (hcl : cn ≤ maxLen) (hdl : dn ≤ maxLen) :
    Calls Trym.prog 6 #[.int .i64 room, .int .u64 first, .slice eo en ec, .int .i64 head, .int .i64 start, .slice co cn cc, .int .i64 chunked, .int .i64 next, .bool fresh, .slice do_ dn dc] w fun e w' => e = .returned (.bool true) ∧ Below w.heap.size w w' := by
  have HI : Hid (ElemsIn w eo en (i6 ef) ∧ (eo = none → en = 0) ∧ ChunksIn w co cn K ∧ (co = none → cn = 0) ∧ ElemsIn w do_ dn (byt db) ∧ (do_ = none → dn = 0) ∧ en ≤ maxLen ∧ cn ≤ maxLen ∧ dn ≤ maxLen) := ⟨he, hez, hc, hcz, hd, hdz, hel, hcl, hdl⟩
  clear he hez hc hcz hd hdz hel hcl hdl
  go_enter Trym.func6, Trym.ntmps6
  go_wp2_with fail
  refine (zz26 room head start chunked next first fresh eo en ec co cn cc do_ dn dc K w HI.out.2.2.1 HI.out.2.2.2.2.2.2.1 HI.out.2.2.2.2.2.2.2.1 HI.out.2.2.2.2.2.2.2.2).mono ?_
  rintro e w' ⟨hyn, hw'⟩
  rw [hw']
  clear hw' w'
  rcases hyn with rfl | rfl
  rotate_left
  · go_wp2_with fail
    go_ret
    exact ⟨rfl, Below.refl _ _⟩
  go_wp2_with fail
  refine (sized16 eo en ec co cn cc do_ dn dc K w HI.out.2.2.1 HI.out.2.2.2.2.2.2.1 HI.out.2.2.2.2.2.2.2.1 HI.out.2.2.2.2.2.2.2.2).mono ?_
  rintro e w' ⟨hyn, hw'⟩
  rw [hw']
  clear hw' w'
  rcases hyn with ⟨rfl, hsz⟩ | rfl
  rotate_left
  · go_wp2_with fail
    go_ret
    exact ⟨rfl, Below.refl _ _⟩
  have HZ : Hid (Sized en cn dn K) := hsz
  clear hsz
  go_wp2_with fail
  refine (wf27 co cn cc K w HI.out.2.2.1 HZ.out.c (fun i hi => (HZ.out.k i hi).1) chunked next fresh).mono ?_
  rintro e w0 ⟨hyn, n0, hw0⟩
  have hc0 : Chg (fun _ => False) w w0 := by rw [hw0]; exact ⟨rfl, rfl, rfl, Nat.le_refl _, fun _ _ _ => rfl⟩
  clear hw0 n0
  rcases hyn with ⟨rfl, hwf⟩ | rfl
  rotate_left
  · go_wp2_with fail
    go_ret
    exact ⟨rfl, hc0.toBelow⟩
  have HW : Hid (Wf cn K chunked next fresh ∧ Chg (fun _ => False) w w0) := ⟨hwf, hc0⟩
  clear hwf hc0
  go_wp2_with fail
  refine (ints17 eo en ec ef w0 HZ.out.e HI.out.2.1 (HI.out.1.chg HW.out.2 (by simp))).mono ?_
  rintro e w1 ⟨o1, rfl, hcl1⟩
  have H1 : Hid (Cl w0 w1 o1 eo en 2 (i6 ef) ∧ Chg (fun _ => False) w w1) := ⟨hcl1, HW.out.2.trans hcl1.chg⟩
  clear hcl1
  go_wp2_with fail
  refine (chunks18 co cn cc K w1 HZ.out.c HI.out.2.2.2.1 (HI.out.2.2.1.chg H1.out.2.toBelow (Nat.le_refl _)) (fun i hi => (HZ.out.k i hi).1)).mono ?_
  rintro e w2 ⟨o2, K', rfl, hn2, hch2, hck2, hsm2⟩
  have H2 : Hid (Chg (fun _ => False) w w2 ∧ ChunksIn w2 o2 cn K' ∧ CkSame K K' cn ∧ Chg (fun _ => False) w1 w2) := ⟨H1.out.2.trans hch2, hck2, hsm2, hch2⟩
  clear hn2 hch2 hck2 hsm2
  go_wp2_with fail
  refine (bytes19 do_ dn dc db w2 HZ.out.d HI.out.2.2.2.2.2.1 (HI.out.2.2.2.2.1.chg H2.out.1 (by simp))).mono ?_
  rintro e w3 ⟨o3, rfl, hcl3⟩
  have H3 : Hid (Cl w2 w3 o3 do_ dn 5 (byt db)) := hcl3
  clear hcl3
  go_wp2_with fail
  refine (ints17 o1 en en ef w3 HZ.out.e (fun h => HI.out.2.1 (by have := H1.out.1.isNone; rw [h] at this; simpa using this.symm)) ((H1.out.1.elems.chg H2.out.2.2.2 (by simp)).chg H3.out.chg (by simp))).mono ?_
  rintro e w4 ⟨o4, rfl, hcl4⟩
  have H4 : Hid (Cl w3 w4 o4 o1 en 2 (i6 ef)) := hcl4
  clear hcl4
  go_wp2_with fail
  refine (build20 w4 room first head start chunked next fresh o4 en en o2 cn cn K' (H2.out.2.1.chg (H3.out.chg.trans H4.out.chg).toBelow (Nat.le_refl _)) HZ.out.c (fun i hi => by have := HZ.out.k i hi; rw [← H2.out.2.2.1.bl, ← H2.out.2.2.1.cp] at this; exact this)).mono ?_
  rintro e w5 ⟨rfl, cv, L, hbld⟩
  have HP : Hid (Pro w w5 w4.heap.size ⟨room, first, .slice o4 en en, head, start, cv, chunked, next, fresh⟩ L cn K' o3 dn db) := pro_of H2.out.1 H3.out H4.out hbld
  have HA : Hid (AccL ⟨room, first, .slice o4 en en, head, start, cv, chunked, next, fresh⟩ L) := acc_of_wf HW.out.1 H2.out.2.2.1 hbld.is_ (fun i hi => by have := HZ.out.k i hi; omega) rfl rfl rfl
  clear hbld
  go_wp2_with fail
  refine (place21 w5 _ _ _ L HP.out.rep HP.out.hB5 (by have := HP.out.is_.1; have := HZ.out.c; omega) (fun c hc => Nat.le_trans (HP.out.is_.cpLe (fun i hi => by rw [H2.out.2.2.1.cp]; exact (HZ.out.k i hi).2.2) c hc) (by decide)) o3 dn dn HZ.out.d db HP.out.dat (fun h => ⟨HP.out.dnil h, HP.out.dnil h⟩) HP.out.dlt (max (min 65536 room) dn).toNat (by show (((max (min 65536 room) dn).toNat : Nat) : Int) = max (min 65536 room) dn; omega)).mono ?_
  rintro e w6 ⟨rfl, F', L', hrep6, hres, hbel6⟩
  have hac := acc_place HA.out hres
  obtain ⟨L0, c, rfl, hcn, hbs⟩ := hac.data
  have hfr' := hac.fresh
  have HT : Hid (Pst w w6 w4.heap.size F' L0 c o3 dn db) := ⟨hrep6, hac.acc, HP.out.bel.trans (hbel6.mono HP.out.hB), HP.out.dat.bel hbel6 HP.out.dlt, by have := len_place hres; have := HP.out.is_.1; have := HZ.out.c; simp at *; omega, hbs, cp_place hres (fun c hc => Nat.le_trans (HP.out.is_.cpLe (fun i hi => by rw [H2.out.2.2.1.cp]; exact (HZ.out.k i hi).2.2) c hc) (by decide)) (by have := HZ.out.d; omega) c (by simp)⟩
  clear hrep6 hres hbel6 hac hbs HP HA H4 H3 H2 H1 HW
  obtain ⟨at1, bs1, n1, cp1, blk1⟩ := c
  obtain ⟨q, hq⟩ : ∃ q, n1 = q + dn := ⟨n1 - dn, by simp at hcn; omega⟩
  subst hq
  clear hcn
  go_wp2_with fail
  refine (state22 w6 _ _ F' _ HT.out.rep).mono ?_
  rintro e w7 ⟨rfl, n7, hw7⟩
  have HT7 : Hid (Pst w w7 w4.heap.size F' L0 ⟨at1, bs1, q + dn, cp1, blk1⟩ o3 dn db) := HT.out.new (by rw [hw7]; exact ⟨rfl, rfl, rfl, Nat.le_refl _, fun _ _ _ => rfl⟩)
  clear hw7 n7 HT
  go_wp2_with fail
  refine (count25 w7 _ _ F' _ HT7.out.rep).mono ?_
  rintro e w' ⟨rfl, hw'⟩
  rw [hw']
  clear hw' w'
  have hlen := HT7.out.len
  have b0 : ((L0.length : Int) + 1 == 0) = false := by rw [beq_eq_false_iff_ne]; omega
  simp only [List.length_append, List.length_cons, List.length_nil, Nat.zero_add, Int.natCast_add, Int.cast_ofNat_Int]
  go_wp2_with fail
  go_loopw [31, 32, 33] (fun z en_ i wr => ∃ k : Nat, k ≤ L0.length + 1 ∧ i = .int .i64 k ∧ z = .int .i64 (wsum (capF (L0 ++ [⟨at1, bs1, q + dn, cp1, blk1⟩])) k) ∧ (∃ ev : Int, en_ = .int .i64 ev ∧ ∀ j c, k = j + 1 → (L0 ++ [⟨at1, bs1, q + dn, cp1, blk1⟩])[j]? = some c → ev = wrap64 (c.at_ + c.cp)) ∧ Chg (fun _ => False) w7 wr) (fun _ _ i _ => L0.length + 1 - (intOf i).toNat)
  case atStart => exact ⟨0, Nat.zero_le _, rfl, rfl, ⟨0, rfl, fun j c h => by omega⟩, Chg.refl _ _⟩
  case round =>
    obtain ⟨k, hk, rfl, rfl, ⟨ev, rfl, hev⟩, hch⟩ := hrel
    have HR : Hid ((∀ j c, k = j + 1 → (L0 ++ [⟨at1, bs1, q + dn, cp1, blk1⟩])[j]? = some c → ev = wrap64 (c.at_ + c.cp)) ∧ Pst w wr w4.heap.size F' L0 ⟨at1, bs1, q + dn, cp1, blk1⟩ o3 dn db ∧ Chg (fun _ => False) w7 wr) := ⟨hev, HT7.out.new hch, hch⟩
    clear hev hch
    by_cases hlt : k < L0.length + 1
    · obtain ⟨ck, hck⟩ : ∃ ck, (L0 ++ [⟨at1, bs1, q + dn, cp1, blk1⟩])[k]? = some ck := ⟨_, List.getElem?_eq_getElem (by simp; omega)⟩
      have HK : Hid ((L0 ++ [⟨at1, bs1, q + dn, cp1, blk1⟩])[k]? = some ck) := hck
      clear hck
      have kn : (k : Int) < (L0.length : Int) + 1 := by omega
      go_wp2_with fail
      refine (at28 wr _ _ F' _ HR.out.2.1.rep k ck HK.out).mono ?_
      rintro e wt ⟨rfl, hct⟩
      have HC : Hid (Chg (fun _ => False) w7 wt) := HR.out.2.2.trans hct
      clear hct
      have es : wsum (capF (L0 ++ [⟨at1, bs1, q + dn, cp1, blk1⟩])) (k + 1) = wrap64 (wsum (capF (L0 ++ [⟨at1, bs1, q + dn, cp1, blk1⟩])) k + ck.cp) := by
        simp only [wsum, capF, HK.out]; rfl
      have HS : Hid (wsum (capF (L0 ++ [⟨at1, bs1, q + dn, cp1, blk1⟩])) (k + 1) = wrap64 (wsum (capF (L0 ++ [⟨at1, bs1, q + dn, cp1, blk1⟩])) k + ck.cp)) := es
      clear es
      cases k with
      | zero =>
        have z0 : decide ((0 : Int) < 0) = false := rfl
        go_wp2_with fail
        go_roundw
        case rel => exact ⟨1, by omega, by simp, by rw [HS.out], ⟨_, rfl, fun j c hj hc => by
          obtain rfl : j = 0 := by omega
          rw [HK.out] at hc
          simp at hc
          rw [hc]⟩, HC.out⟩
        case measure => simp [intOf]
      | succ j =>
        have hL0 : j < L0.length + 1 := by omega
        obtain ⟨cj, hcj⟩ : ∃ cj, (L0 ++ [⟨at1, bs1, q + dn, cp1, blk1⟩])[j]? = some cj := ⟨_, List.getElem?_eq_getElem (by simp; omega)⟩
        have hlk := HR.out.2.1.acc.link j cj ck hcj HK.out
        have hev := HR.out.1 j cj rfl hcj
        have hb : (ck.at_ != ev) = false := by rw [hlk, hev]; simp
        clear hlk hev hcj
        have z0 : (0 : Int) < (j : Int) + 1 := by omega
        go_wp2_with fail
        go_roundw
        case rel => exact ⟨j + 1 + 1, by omega, by go_num, by rw [HS.out], ⟨_, rfl, fun i c hj hc => by
          obtain rfl : i = j + 1 := by omega
          rw [HK.out] at hc
          simp at hc
          rw [hc]⟩, HC.out⟩
        case measure => simp [intOf]; omega
    · have hkn : k = L0.length + 1 := by omega
      subst hkn
      go_wp2_with fail
      refine (at28 wr _ _ F' _ HR.out.2.1.rep L0.length ⟨at1, bs1, q + dn, cp1, blk1⟩ (by simp)).mono ?_
      rintro e wt ⟨rfl, hct⟩
      have HT8 : Hid (Pst w wt w4.heap.size F' L0 ⟨at1, bs1, q + dn, cp1, blk1⟩ o3 dn db) := HR.out.2.1.new hct
      clear hct HR HT7
      have hcpb : q + dn ≤ cp1 ∧ dn ≤ 1048576 := ⟨by obtain ⟨_, _, _, h, _⟩ := (HT8.out.rep.bufs ⟨at1, bs1, q + dn, cp1, blk1⟩ (by simp)).2; exact h, HZ.out.d⟩
      have hqb : q ≤ 1048576 := by have : cp1 ≤ 1048576 := HT8.out.cps; omega
      have hdb : dn ≤ 1048576 := hcpb.2
      have e1 : (F'.next != wrap64 (at1 + ((q : Int) + (dn : Int)))) = false := by
        have := HT8.out.acc.last ⟨at1, bs1, q + dn, cp1, blk1⟩ (by simp) hfr'
        simp only [Int.natCast_add] at this
        rw [this]; simp
      have e2 : decide (((q : Int) + (dn : Int)) < (dn : Int)) = false := decide_eq_false (by omega)
      have HS : Hid (wsum (capF (L0 ++ [⟨at1, bs1, q + dn, cp1, blk1⟩])) (L0.length + 1) = F'.chunked) := by
        have := HT8.out.acc.sum
        unfold Hid capF
        simpa using this
      clear hcpb
      go_wp2_with fail
      go_loopw [41] (fun i wr => ∃ k : Nat, k ≤ dn ∧ i = .int .i64 k ∧ ∃ n, wr = wt.drewN n) (fun i _ => dn - (intOf i).toNat)
      case atStart => exact ⟨0, Nat.zero_le _, rfl, 0, rfl⟩
      case round =>
        obtain ⟨k, hk, rfl, n0, rfl⟩ := hrel
        by_cases hkd : k < dn
        · obtain ⟨bd, offd, rfl, hdc⟩ := HT8.out.dat k hkd
          obtain ⟨arr, a1, a2, a3, a4⟩ := (HT8.out.rep.bufs ⟨at1, bs1, q + dn, cp1, blk1⟩ (by simp)).2
          have hbc : wt.cell? ⟨blk1, q + k, none⟩ = some (.int .u8 (db k)) := by
            rw [cell_of_row wt _ _ _ _ _ a1, a4 (q + k) (by show q + k < q + dn; omega)]
            have := HT8.out.bs k hkd
            simp only [Nat.add_sub_cancel] at this
            rw [← this]
          clear a1 a2 a3 a4
          have z1 : (q : Int) + (k : Int) < (q : Int) + (dn : Int) := by omega
          have z2 : (k : Int) < (dn : Int) := by omega
          go_wp2_with fail
          go_quiet (fail)
          go_wp2
          go_roundw
          case rel => exact ⟨k + 1, by omega, by go_num, n0 + nq, rfl⟩
          case measure => simp [intOf]; omega
        · go_wp2
          go_ret
          rw [HS.out]
          exact ⟨by simp, below_drew' HT8.out.bel n0⟩
end Go.Proofs.Qxb6603459aMods
