/- FnCopiesFirstMatchesHistorySaid: every way of the law's walk, and the row. -/
import Derived.Test.Qxb6603459aModsLaw3
import Derived.ProofKit
import Derived.OpenShut
import Derived.ShutString
import Derived.ChangeOld
import Derived.Deep.Slices
namespace Go.Proofs.Qxb6603459aMods
open Go.RowKit Go.MapFns
open Go.ChangeShapes Go.WideShapes Go.ChangeAt
set_option linter.unusedVariables false

theorem own : ownKnob Trym.prog.godebug = none := by kernel_rfl
theorem laidOut : laidOutB Trym.prog = true := by kernel_rfl

set_option maxHeartbeats 400000 in
theorem law3_huge (ao : Option Addr) (n c : Nat) (w : World) (hn : ¬ n ≤ 1048576) :
    Calls Trym.prog 3 #[.slice ao n c] w fun e w' => e = .returned (.bool true) ∧ Below w.heap.size w w' := by
  go_enter Trym.func3, Trym.ntmps3
  go_wp2_with (go_at_call 9; refine (zz9_no _ _ _ _ hn).mono ?_; rintro e w' ⟨rfl, hw'⟩; rw [hw']; clear hw')
  go_ret
  exact ⟨rfl, Below.refl _ _⟩
set_option maxHeartbeats 400000 in
theorem law3_long (ao : Option Addr) (n c : Nat) (w : World) (hn : n ≤ 1048576) (hn2 : ¬ n ≤ 4096) :
    Calls Trym.prog 3 #[.slice ao n c] w fun e w' => e = .returned (.bool true) ∧ Below w.heap.size w w' := by
  have h1 : (4096 : Int) < (n : Int) := by omega
  go_enter Trym.func3, Trym.ntmps3
  go_wp2_with (go_at_call 9; refine (zz9_yes _ _ _ _ hn).mono ?_; rintro e w' ⟨rfl, hw'⟩; rw [hw']; clear hw')
  go_ret
  exact ⟨rfl, Below.refl _ _⟩
attribute [local go_sem] mk28
set_option maxHeartbeats 400000 in
theorem law3_nil (w : World) :
    Calls Trym.prog 3 #[.slice none 0 0] w fun e w' => e = .returned (.bool true) ∧ Below w.heap.size w w' := by
  have hmk : (Instr.makeSlice 28 (.int .i64 0) (.int .i64 0)).run Trym.prog (w.alloc (.map #[] 0)) = .ok (.slice (some ⟨w.heap.size + 1, 0, none⟩) 0 0) ((w.alloc (.map #[] 0)).alloc (.cells #[] 4)) := by
    have := mk28 (w.alloc (.map #[] 0)) 0 (by omega)
    simpa using this
  go_enter Trym.func3, Trym.ntmps3
  go_wp2_with (first
    | (go_at_call 9; refine (zz9_yes _ _ _ _ (by omega)).mono ?_; rintro e w' ⟨rfl, hw'⟩; rw [hw']; clear hw')
    | (go_at_call 10; refine (clone10_nil 0 0 _).mono ?_; rintro e w' ⟨rfl, hw'⟩; rw [hw']; clear hw')
    | (go_at_call 11; refine (new11 _).mono ?_; rintro e w2 ⟨rfl, rfl⟩))
  refine wp_loop_rounds 1 ?_
  rw [rounds_succ]
  go_wp2
  go_ret
  exact ⟨rfl, ((Below.refl _ _).alloc (Nat.le_refl _) _).alloc (by simp) _⟩

/-- the walk, whatever came in -/
theorem law3_all (ao : Option Addr) (n c : Nat) (cs : Cs) (w : World) (hz : ao = none → n = 0 ∧ c = 0) (hc : Cells4 cs w ao n) (h0 : ∀ i, i < n → 0 ≤ (cs i).2.2.2) :
    Calls Trym.prog 3 #[.slice ao n c] w fun e w' => e = .returned (.bool true) ∧ Below w.heap.size w w' := by
  by_cases h1 : n ≤ 1048576
  · by_cases h2 : n ≤ 4096
    · cases ao with
      | none => obtain ⟨rfl, rfl⟩ := hz rfl; exact law3_nil w
      | some a => exact law3_main _ n c cs w h2 rfl hc h0
    · exact law3_long ao n c w h1 h2
  · exact law3_huge ao n c w h1

/-- four cells of one call, out of its reading -/
theorem call_open {H : Type} {enc : TypeId × Value → H} {w : World} {base : Nat} {spare : Nat → Bool} {held : Bool} {n : Nat} {cs' : List Value} {x : DataW H × List MemPlace}
    (h : DataW.trod enc Trym.prog w base spare held n 33 cs' = some x) : ∃ q : Int × Int × Int × Int, cs' = [.int .u64 q.1, .int .u64 q.2.1, .int .u64 q.2.2.1, .int .u64 q.2.2.2] ∧ 0 ≤ q.2.2.2 := by
  obtain ⟨xs, k, _, _, hl, hxl, hf⟩ := DataW.trod_struct Trym.underlying33 h
  have c33 : Trym.prog.cellsOf 33 = 4 := by kernel_rfl
  have c31 : Trym.prog.cellsOf 31 = 1 := by kernel_rfl
  rw [c33] at hl
  match cs', hl with
  | [v0, v1, v2, v3], _ =>
    have hxl4 : xs.length = 4 := hxl
    match xs, hxl4 with
    | [y0, y1, y2, y3], _ =>
      have g0 := hf 0 _ rfl
      have g1 := hf 1 _ rfl
      have g2 := hf 2 _ rfl
      have g3 := hf 3 _ rfl
      simp [c31] at g0 g1 g2 g3
      obtain ⟨a0, e0, _, _⟩ := DataW.trod_int Trym.underlying31 g0
      obtain ⟨a1, e1, _, _⟩ := DataW.trod_int Trym.underlying31 g1
      obtain ⟨a2, e2, _, _⟩ := DataW.trod_int Trym.underlying31 g2
      obtain ⟨a3, e3, _, w3⟩ := DataW.trod_int Trym.underlying31 g3
      simp at e0 e1 e2 e3
      refine ⟨(a0, a1, a2, a3), by simp [e0, e1, e2, e3], ?_⟩
      have := bounds_u64 w3
      exact this.1

set_option maxRecDepth 100000 in
theorem lifted3 (os : Os) (started : os.Started) (H : Type) (enc : TypeId × Value → H) :
    ReturnsInHanded {} Trym.checked os 3 .any (Rows.fnCopiesFirstMatchesHistorySpec.pre6 enc Trym.prog Trym.f3 Rows.fnCopiesFirstMatchesHistoryRow.domain false) (Rows.fnCopiesFirstMatchesHistorySpec.post enc Trym.prog Trym.f3 false true false false) := by
  refine returnsInHanded_of_change (C := Trym.checked) own started (by kernel_rfl) Trym.func3
    (ChangeSpec.witness6 (enc := enc) (C := Trym.checked) false ⟨#[], #[.slice none 0 0], []⟩ 8 (by kernel_rfl) (by kernel_rfl) (by kernel_rfl) (by kernel_rfl)) ?_
  intro W base args ds gs before hval0 hW hcnd _
  have hval : ∀ (j : Nat) t v, Trym.f3.params[j]? = some t → args[j]? = some v → Value.okWide Trym.prog W .any base t v := hval0
  have hW' := hW
  obtain ⟨p, q, hA0, hV, rfl, hfz, hnd⟩ := hW
  have hA : DataW.TrodAll enc Trym.prog W 0 (fun _ => true) true Trym.f3.params.toList args.toList ds p := hA0
  rw [Trym.params3] at hA hval
  obtain ⟨v0, vs0, d0, ds0, p0, q0, hargs, rfl, rfl, h0, r0⟩ := trodAll_cons hA
  obtain ⟨rfl, rfl, rfl⟩ := trodAll_nil r0
  obtain rfl : args = #[v0] := by cases args; simp_all
  obtain ⟨rfl, rfl⟩ := trodVars_none hV
  obtain ⟨a0, len0, cap0, rfl⟩ := okWide_slice Trym.underlying22 (hval 0 22 v0 rfl rfl)
  have k0 := h0
  have lt0 : ∀ x ∈ p0, x.block < W.heap.size := by obtain ⟨m, hm⟩ := k0; exact DataW.trod_lt m _ _ _ hm
  obtain ⟨cs, hz, hcl, hpos⟩ : ∃ cs : Cs, (a0 = none → len0 = 0 ∧ cap0 = 0) ∧ Cells4 cs W a0 len0 ∧ ∀ i, i < len0 → 0 ≤ (cs i).2.2.2 := by
    obtain ⟨fuel, hf⟩ := h0
    rcases Deep.open_slice Trym.underlying22 hf with ⟨hcs, _⟩ | ⟨x, l, c, m, n, D, Pl, hcs, _, hl, hm, hmm, _, hx⟩
    · simp [Value.cells] at hcs
      obtain ⟨rfl, rfl, rfl⟩ := hcs
      exact ⟨fun _ => (0, 0, 0, 0), fun _ => ⟨rfl, rfl⟩, fun i h => by omega, fun i h => by omega⟩
    · simp [Value.cells] at hcs
      obtain ⟨rfl, rfl, rfl⟩ := hcs
      have c33 : Trym.prog.cellsOf 33 = 4 := by kernel_rfl
      have hlm : len0 ≤ m := by rw [hmm]; split <;> omega
      obtain ⟨cs, hcs⟩ := Deep.choose_lt (α := Int × Int × Int × Int) (n := m) (p := fun i q => W.cells? 0 (x.add (i * 4)) 4 = some [.int .u64 q.1, .int .u64 q.2.1, .int .u64 q.2.2.1, .int .u64 q.2.2.2] ∧ 0 ≤ q.2.2.2) (fun i hi => by
        obtain ⟨cs', h1, h2⟩ := hx i hi
        rw [c33] at h1
        obtain ⟨q, e, hq⟩ := call_open h2
        exact ⟨q, by rw [← e]; exact h1, hq⟩)
      refine ⟨cs, (fun h => by cases h), ?_, fun i hi => (hcs i (by omega)).2⟩
      intro i hi
      obtain ⟨_, _, hc⟩ := World.cells?_some (hcs i (by omega)).1
      have e0 := hc 0 (by omega)
      have e1 := hc 1 (by omega)
      have e2 := hc 2 (by omega)
      have e3 := hc 3 (by omega)
      rw [Deep.add_add] at e0 e1 e2 e3
      obtain ⟨b, off, spot⟩ := x
      have hspot : spot = none := by
        obtain ⟨_, _, hc0⟩ := World.cells?_some (hcs 0 (by omega)).1
        simpa [Addr.add] using World.cell?_spot (hc0 0 (by omega))
      subst hspot
      simp only [Addr.add_mid] at e0 e1 e2 e3
      exact ⟨b, off, rfl, by simpa using e0, by simpa [Nat.add_assoc] using e1, by simpa [Nat.add_assoc] using e2, by simpa [Nat.add_assoc] using e3⟩
  clear hA0 hval0
  refine (law3_all a0 len0 cap0 cs W hz hcl hpos).mono fun e W' ⟨he, bel⟩ => ?_
  subst he
  exact ⟨_, rfl, _, _, _, [], _, [], hW', trodAll_mk1 (shut_bool Trym.underlying4 _), (trodAll_cons_mk (Below.trod laidOut (by kernel_rfl) (of_decide_eq_true (by kernel_rfl)) k0 bel lt0) trodAll_mk0), rfl, bel.frame _, fun h => by cases h⟩

theorem over3 : Rows.fnCopiesFirstMatchesHistoryRow.holds Trym.pinned (OpenSpec.ofChange Rows.fnCopiesFirstMatchesHistorySpec) :=
  OpenClaim.holds_of_wide 3 Trym.f3 rfl rfl rfl rfl rfl rfl rfl ⟨rfl, rfl, rfl, rfl, rfl⟩ rfl rfl rfl rfl rfl (by kernel_rfl) Trym.func3 (by kernel_rfl)
    (of_decide_eq_true (by kernel_rfl)) (by unfold Func.isWrapper; first | (rw [if_pos (by decide +kernel)]; kernel_rfl) | (rw [if_neg (by decide +kernel)]; exact ⟨rfl, rfl⟩))
    (fun os started H enc _ => lifted3 os started H enc)

theorem copies_first_matches_history : Rows.FnCopiesFirstMatchesHistorySaid := over3
end Go.Proofs.Qxb6603459aMods
