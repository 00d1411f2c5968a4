/- The case table of pop. Own work. -/
import Derived.Test.Qxb6603459aModsPopC
namespace Go.Proofs.Qxb6603459aMods
open Go.RowKit Go.MapFns
set_option linter.unusedVariables false

theorem ElemsIn.at0 {w : World} {b n : Nat} {f : Nat → Value} (h : ElemsIn w (some ⟨b, 0, none⟩) n f) (i : Nat) (hi : i < n) : w.cell? ⟨b, i, none⟩ = some (f i) := by
  obtain ⟨b', off, e, hc⟩ := h i hi
  simp at e
  obtain ⟨rfl, rfl⟩ := e
  rw [Nat.zero_add] at hc
  exact hc
theorem ElemsIn.congr {w : World} {o : Option Addr} {n : Nat} {f g : Nat → Value} (h : ElemsIn w o n f) (e : ∀ i, i < n → f i = g i) : ElemsIn w o n g := by
  intro i hi
  rw [← e i hi]
  exact h i hi
theorem ElemsIn.from {w : World} {b n : Nat} {f : Nat → Int} (h : ElemsIn w (some ⟨b, 0, none⟩) n (i6 f)) (k : Nat) (hk : k ≤ n) : ElemsIn w (some ⟨b, k, none⟩) (n - k) (i6 fun i => f (k + i)) := by
  intro i hi
  exact ⟨b, k, rfl, h.at0 (k + i) (by omega)⟩

attribute [local go_sem] eqnil35
set_option maxHeartbeats 4000000 in
set_option maxRecDepth 100000 in
theorem law7 (room first head start chunked next : Int) (fresh : Bool) (eo : Option Addr) (en ec : Nat) (co : Option Addr) (cn cc : Nat) (ef : Nat → Int) (K : CkIn) (w : World)
    (he : ElemsIn w eo en (i6 ef)) (hez : eo = none → en = 0) (hc : ChunksIn w co cn K) (hcz : co = none → cn = 0) (hel : en ≤ maxLen) (hcl : cn ≤ maxLen) (hhead : (Lit.int .i64 head).wf = true) (hchunked : (Lit.int .i64 chunked).wf = true) :
    Calls Trym.prog 7 #[.int .i64 room, .int .u64 first, .slice eo en ec, .int .i64 head, .int .i64 start, .slice co cn cc, .int .i64 chunked, .int .i64 next, .bool fresh] w fun e w' => e = .returned (.bool true) ∧ Below w.heap.size w w' := by
  have HI : Hid (ElemsIn w eo en (i6 ef) ∧ (eo = none → en = 0) ∧ ChunksIn w co cn K ∧ (co = none → cn = 0) ∧ en ≤ maxLen ∧ cn ≤ maxLen) := ⟨he, hez, hc, hcz, hel, hcl⟩
  have HW : Hid (wrap64 chunked = chunked) := by
    simp [Lit.wf] at hchunked
    have hmin : IntKind.i64.min = -9223372036854775808 := by decide
    unfold Hid wrap64
    omega
  clear he hez hc hcz hel hcl hchunked hhead
  go_enter Trym.func7, Trym.ntmps7
  go_wp2_with fail
  refine (zz29 room head start chunked next first fresh eo en ec co cn cc K w HI.out.2.2.1 HI.out.2.2.2.2.1 HI.out.2.2.2.2.2).mono ?_
  rintro e w' ⟨hyn, hw'⟩
  rw [hw']
  clear hw' w'
  rcases hyn with rfl | rfl
  rotate_left
  · go_wp2_with fail
    go_ret
    exact ⟨rfl, Below.refl _ _⟩
  go_wp2_with fail
  refine (sized16 eo en ec co cn cc none 0 0 K w HI.out.2.2.1 HI.out.2.2.2.2.1 HI.out.2.2.2.2.2 (Nat.zero_le _)).mono ?_
  rintro e w' ⟨hyn, hw'⟩
  rw [hw']
  clear hw' w'
  rcases hyn with ⟨rfl, hsz⟩ | rfl
  rotate_left
  · go_wp2_with fail
    go_ret
    exact ⟨rfl, Below.refl _ _⟩
  have HZ : Hid (Sized en cn 0 K) := hsz
  clear hsz
  by_cases hneg : head < 0
  · have hn1 : decide (head < 0) = true := decide_eq_true hneg
    go_wp2_with fail
    go_ret
    exact ⟨rfl, Below.refl _ _⟩
  have hn1 : decide (head < 0) = false := decide_eq_false hneg
  by_cases hbig : (en : Int) ≤ head
  · have hn2 : decide ((en : Int) ≤ head) = true := decide_eq_true hbig
    go_wp2_with fail
    go_ret
    exact ⟨rfl, Below.refl _ _⟩
  obtain ⟨h, rfl⟩ : ∃ h : Nat, head = h := ⟨head.toNat, by omega⟩
  have hh : h < en := by omega
  have hen4 := HZ.out.e
  have hcn4 := HZ.out.c
  clear hneg hn1
  have hn1 : decide ((h : Int) < 0) = false := decide_eq_false (by omega)
  have hn2 : decide ((en : Int) ≤ (h : Int)) = false := decide_eq_false (by omega)
  clear hbig
  go_wp2_with fail
  clear hn1 hn2
  refine (ints17 eo en ec ef w HZ.out.e HI.out.2.1 HI.out.1).mono ?_
  rintro e w1 ⟨o1, rfl, hcl1⟩
  have H1 : Hid (Cl w w1 o1 eo en 2 (i6 ef) ∧ Chg (fun _ => False) w w1) := ⟨hcl1, hcl1.chg⟩
  clear hcl1
  go_wp2_with fail
  refine (chunks18 co cn cc K w1 HZ.out.c HI.out.2.2.2.1 (HI.out.2.2.1.chg H1.out.2.toBelow (Nat.le_refl _)) (fun i hi => (HZ.out.k i hi).1)).mono ?_
  rintro e w2 ⟨o2, K', rfl, hn2, hch2, hck2, hsm2⟩
  have H2 : Hid (Chg (fun _ => False) w w2 ∧ ChunksIn w2 o2 cn K' ∧ CkSame K K' cn ∧ Chg (fun _ => False) w1 w2) := ⟨H1.out.2.trans hch2, hck2, hsm2, hch2⟩
  clear hn2 hch2 hck2 hsm2
  go_wp2_with fail
  refine (ints17 o1 en en ef w2 HZ.out.e (fun h => HI.out.2.1 (by have := H1.out.1.isNone; rw [h] at this; simpa using this.symm)) (H1.out.1.elems.chg H2.out.2.2.2 (by simp))).mono ?_
  rintro e w4 ⟨o4, rfl, hcl4⟩
  have H4 : Hid (Cl w2 w4 o4 o1 en 2 (i6 ef)) := hcl4
  clear hcl4
  go_wp2_with fail
  have HS : Hid (∀ i, i < cn → K'.bl i ≤ 65536 ∧ (K'.bl i : Int) ≤ K'.cp i ∧ K'.cp i ≤ 65536) := fun i hi => by have := HZ.out.k i hi; rw [← H2.out.2.2.1.bl, ← H2.out.2.2.1.cp] at this; exact this
  refine (build20 w4 room first (h : Int) start chunked next fresh o4 en en o2 cn cn K' (H2.out.2.1.chg (H4.out.chg).toBelow (Nat.le_refl _)) HZ.out.c HS.out).mono ?_
  rintro e w5 ⟨rfl, cv, L, hbld⟩
  obtain ⟨eo1, eo4, hpre⟩ := pre7_of H1.out.1 H2.out.2.2.2 H2.out.2.1 H4.out hbld (by omega)
  subst eo1 eo4
  have HP : Hid (Pre7 w w5 w4.heap.size w2.heap.size ⟨room, first, .slice (some ⟨w2.heap.size, 0, none⟩) en en, (h : Int), start, cv, chunked, next, fresh⟩ L (some ⟨w.heap.size, 0, none⟩) o2 en cn ef K') := hpre
  clear hpre hbld H4 H1 H2
  generalize w4.heap.size = R at *
  generalize w2.heap.size = eb at *
  generalize w.heap.size = B at *
  go_wp2_with fail
  refine (pop30 w5 R _ L eb en en h ef hen4 hh rfl rfl HP.out.st.fields HP.out.st.ends HP.out.st.cks (by have := HP.out.is_.1; omega) HW.out).mono ?_
  rintro e w6 ⟨rfl, hres⟩
  have b1 : (room != room) = false := by simp
  have b2 : (IntKind.u64.wrap (first + 1) != IntKind.u64.wrap (first + 1)) = false := by simp
  have b3 : (ef h != ef h) = false := by simp
  have b4 : (next != next) = false := by simp
  have b5 : (fresh != fresh) = false := by simp
  have z0 : (0 : Int) ≤ (h : Int) := by omega
  have z1 : (h : Int) < (en : Int) := by omega
  rcases hres with ⟨hlast, hc6, hf6⟩ | ⟨hlast, k, cv', m', h', ef', hdr, hst, hcase⟩
  · have HO : Hid (_ ∧ _) := ⟨HP.out.own w6 hc6, hf6⟩
    clear hc6 hf6 HP
    go_wp2_with fail
    refine (rd22 w6 R _ [] (rd_nil HO.out.2 rfl)).mono ?_
    rintro e w7 ⟨rfl, hc7⟩
    have H7 : Hid (_ ∧ _) := ⟨HO.out.1.new hc7, hc7.blk HO.out.2 (by simp)⟩
    clear hc7 HO
    have c7 := H7.out.1.e1.at0 h hh
    have x1 : (h : Int) + 1 = (en : Int) := by omega
    have x2 : decide ((h : Int) + 1 = (en : Int)) = true := decide_eq_true x1
    go_wp2_with (go_at_call 31; refine (nil31 w7 R _ H7.out.2 rfl).mono ?_; rintro e w' ⟨rfl, hw'⟩; rw [hw']; clear hw')
    go_ret
    exact ⟨rfl, H7.out.1.bel⟩
  · have HL : Hid (ListIs L cn K' ∧ Drops (ef h) L k) := ⟨HP.out.is_, hdr⟩
    rw [wsum_cap HL.out.1 hdr.le HS.out] at hst
    have HO : Hid (_ ∧ _ ∧ _) := ⟨HP.out.own w6 hst.chg, CksAt.rd hst.fields hst.cks, hst.ends⟩
    clear hst HP hdr
    go_wp2_with fail
    refine (rd22 w6 R _ (L.drop k) HO.out.2.1).mono ?_
    rintro e w7 ⟨rfl, hc7⟩
    have H7 : Hid (_ ∧ _ ∧ _) := ⟨HO.out.1.new hc7, HO.out.2.1.new hc7, HO.out.2.2.chg hc7 (by simp)⟩
    clear hc7 HO
    have c7 := H7.out.1.e1.at0 h hh
    have x1 : ¬ (h : Int) + 1 = (en : Int) := by omega
    have x2 : decide ((h : Int) + 1 = (en : Int)) = false := decide_eq_false x1
    rcases hcase with ⟨hhalf, rfl, rfl, hef⟩ | ⟨hhalf, em, eh, ee⟩
    · have hx1 : (en : Int) / 2 < (h : Int) + 1 := by omega
      have hx2 : decide ((en : Int) / 2 < (h : Int) + 1) = true := decide_eq_true hx1
      have y1 : (0 : Int) ≤ (h : Int) + 1 := by omega
      have y2 : (h : Int) + 1 ≤ (en : Int) := by omega
      have y3 : ¬ en = h + 1 := by omega
      have y4 : ((h : Int) + 1).toNat = h + 1 := by omega
      have HF : Hid (∀ i, i < en - (h + 1) → ef' i = ef (h + 1 + i)) := hef
      clear hef
      go_wp2_with fail
      refine (eq23 w7 (some ⟨eb, 0, none⟩) (some ⟨B, h + 1, none⟩) (en - (h + 1)) en (en - (h + 1)) (fun i => ef (h + 1 + i)) (H7.out.2.2.elems.congr fun i hi => by simp [i6, HF.out i hi]) (H7.out.1.e1.from (h + 1) (by omega)) (by omega)).mono ?_
      rintro e w8 ⟨rfl, hc8⟩
      have H8 : Hid (_ ∧ _) := ⟨H7.out.1.new hc8, H7.out.2.1.new hc8⟩
      clear hc8 H7 c7 y1 y2 y3 y4
      have HK : Hid (KeptIn w8 R _ (L.drop k) o2 cn K' (ef h) k) := kept_of H8.out.2 H8.out.1 HL.out.1 HL.out.2 hcn4 HS.out
      have c8 := H8.out.1.e1.at0 h hh
      go_wp2_with fail
      refine (kept32 w8 R _ (L.drop k) o2 cn cn K' (ef h) k HK.out).mono ?_
      rintro e w9 ⟨rfl, hc9⟩
      have HB : Hid (Own7 w w9 (some ⟨B, 0, none⟩) o2 en cn ef K') := H8.out.1.new hc9
      clear hc9 HK H8
      go_wp2_with fail
      go_ret
      exact ⟨rfl, HB.out.bel⟩
    · have em' := em.symm
      have eh' := eh.symm
      have ee' := ee.symm
      clear em eh ee
      subst em' eh' ee'
      have hx1 : ¬ (en : Int) / 2 < (h : Int) + 1 := by omega
      have hx2 : decide ((en : Int) / 2 < (h : Int) + 1) = false := decide_eq_false hx1
      go_wp2_with fail
      refine (eq23 w7 (some ⟨eb, 0, none⟩) (some ⟨B, 0, none⟩) en en en ef H7.out.2.2.elems H7.out.1.e1 (by omega)).mono ?_
      rintro e w8 ⟨rfl, hc8⟩
      have H8 : Hid (_ ∧ _) := ⟨H7.out.1.new hc8, H7.out.2.1.new hc8⟩
      clear hc8 H7 c7
      have HK : Hid (KeptIn w8 R _ (L.drop k) o2 cn K' (ef h) k) := kept_of H8.out.2 H8.out.1 HL.out.1 HL.out.2 hcn4 HS.out
      have c8 := H8.out.1.e1.at0 h hh
      go_wp2_with fail
      refine (kept32 w8 R _ (L.drop k) o2 cn cn K' (ef h) k HK.out).mono ?_
      rintro e w9 ⟨rfl, hc9⟩
      have HB : Hid (Own7 w w9 (some ⟨B, 0, none⟩) o2 en cn ef K') := H8.out.1.new hc9
      clear hc9 HK H8
      go_wp2_with fail
      go_ret
      exact ⟨rfl, HB.out.bel⟩

end Go.Proofs.Qxb6603459aMods
