/- The checks laid anew; distinct; has. Own work. -/
import Derived.Test.Qxb6600392aModsB
namespace Go.Proofs.Qxb6600392aMods
open Go.RowKit Go.MapFns
set_option linter.unusedVariables false

/-- a slice of checks reads as f -/
def ChksIn (w : World) (ao : Option Addr) (n : Nat) (f : Nat → Chk) : Prop := ∀ i, i < n → ∃ b off, ao = some ⟨b, off, none⟩ ∧ w.cell? ⟨b, off + i * 2, none⟩ = some (.string (f i).1) ∧ w.cell? ⟨b, off + i * 2 + 1, none⟩ = some (.string (f i).2)
theorem ChksIn.chg {w w' : World} {ao : Option Addr} {n : Nat} {f : Nat → Chk} {S : Nat → Prop} (h : ChksIn w ao n f) (hc : Chg S w w') (hs : ∀ b off, ao = some ⟨b, off, none⟩ → ¬ S b) : ChksIn w' ao n f := by
  intro i hi
  obtain ⟨b, off, e, h1, h2⟩ := h i hi
  exact ⟨b, off, e, hc.cell h1 (hs b off e), hc.cell h2 (hs b off e)⟩
theorem ChksIn.new {w w' : World} {ao : Option Addr} {n : Nat} {f : Nat → Chk} (h : ChksIn w ao n f) (hc : Chg (fun _ => False) w w') : ChksIn w' ao n f := h.chg hc (by simp)

theorem eqnil22 (w : World) (a : Option Addr) (n c : Nat) : (binOp .eql 22 (.slice a n c) (.slice none 0 0)).run Trym.prog w = .ok (.bool a.isNone) w :=
  Lib.run_eql_slice_nil w 22 9 a n c 0 0 Trym.underlying22
theorem Trym.info31 : (Trym.prog.info? 31).map (fun i => (i.zero, i.size, i.bytes)) = some (some (.agg #[.string ⟨#[]⟩, .string ⟨#[]⟩]), 2, 32) := by kernel_rfl
theorem mk25 (w : World) (n : Nat) (hc : n ≤ 4096) : ∃ arr, arr.size = n * 2 ∧ (Instr.makeSlice 25 (.int .i64 n) (.int .i64 n)).run Trym.prog w =
   .ok (.slice (some ⟨w.heap.size, 0, none⟩) n n) (w.alloc (.cells arr 31)) := by
  obtain ⟨i, hi, hz, hs, hb⟩ := info_parts Trym.info31
  rw [run_make w 25 31 i _ Trym.underlying25 hi hz .i64 .i64 n n (by omega) (by omega) (by rw [hb]; omega) (by omega)]
  exact ⟨_, by rw [hs]; simp [madeCells], rfl⟩

structure CkW (w wr : World) (n k : Nat) (f : Nat → Chk) (arr : Array Value) : Prop where
  blk : wr.heap[w.heap.size]? = some (.cells arr 31 (0, 0))
  size : arr.size = n * 2
  chg : Chg (fun _ => False) w wr
  cells : ∀ i, i < k → arr[i * 2]? = some (.string (f i).1) ∧ arr[i * 2 + 1]? = some (.string (f i).2)

theorem CkW.room {w wr : World} {n k : Nat} {f : Nat → Chk} {arr : Array Value} (h : CkW w wr n k f arr) (hk : k < n) :
    ∃ v0 v1, wr.cell? ⟨w.heap.size, k * 2, none⟩ = some v0 ∧ wr.cell? ⟨w.heap.size, k * 2 + 1, none⟩ = some v1 ∧ wr.frozen? ⟨w.heap.size, k * 2, none⟩ = false ∧ wr.frozen? ⟨w.heap.size, k * 2 + 1, none⟩ = false := by
  have hs := h.size
  refine ⟨arr[k * 2]'(by omega), arr[k * 2 + 1]'(by omega), ?_, ?_, frozen_of_row _ _ _ _ _ h.blk, frozen_of_row _ _ _ _ _ h.blk⟩ <;>
    rw [cell_of_row _ _ _ _ _ _ h.blk, Array.getElem?_eq_getElem (by omega)]
theorem CkW.step {w wr wd : World} {n k : Nat} {f : Nat → Chk} {arr : Array Value} (h : CkW w wr n k f arr) (hk : k < n) (hd : Chg (fun _ => False) wr wd) :
    CkW w ((wd.setCell ⟨w.heap.size, k * 2, none⟩ (.string (f k).1)).setCell ⟨w.heap.size, k * 2 + 1, none⟩ (.string (f k).2)) n (k + 1) f (lay arr (k * 2) [.string (f k).1, .string (f k).2]) := by
  have hb := hd.blk h.blk (by simp)
  have hs := h.size
  have hcs : Chg (· = w.heap.size) wd (wd.setCells w.heap.size (k * 2) [.string (f k).1, .string (f k).2]) := Chg.setCells (S := (· = w.heap.size)) _ rfl _ _ _
  have goal : CkW w (wd.setCells w.heap.size (k * 2) [.string (f k).1, .string (f k).2]) n (k + 1) f (lay arr (k * 2) [.string (f k).1, .string (f k).2]) := by
    refine ⟨heap_setCells _ _ _ _ _ _ hb, by rw [size_lay]; exact hs, (h.chg.trans hd).into hcs (fun i hi => by omega), ?_⟩
    intro i hi
    by_cases e : i = k
    · subst e
      have g := lay_in [.string (f i).1, .string (f i).2] arr (i * 2)
      exact ⟨g 0 (by simp; omega) (by simp), g 1 (by simp; omega) (by simp)⟩
    · obtain ⟨a1, a2⟩ := h.cells i (by omega)
      rw [lay_out _ _ _ _ (by left; omega), lay_out _ _ _ _ (by left; omega)]
      exact ⟨a1, a2⟩
  exact goal

theorem CkW.drew {w wr : World} {n k : Nat} {f : Nat → Chk} {arr : Array Value} (h : CkW w wr n k f arr) : CkW w wr.drew n k f arr := ⟨h.blk, h.size, h.chg.trans (Chg.drew _ _), h.cells⟩
theorem CkW.in_ {w wr : World} {n : Nat} {f : Nat → Chk} {arr : Array Value} (h : CkW w wr n n f arr) : ChksIn wr (some ⟨w.heap.size, 0, none⟩) n f := by
  intro i hi
  obtain ⟨a, b⟩ := h.cells i hi
  exact ⟨_, 0, rfl, by rw [Nat.zero_add, cell_of_row _ _ _ _ _ _ h.blk]; exact a, by rw [Nat.zero_add, cell_of_row _ _ _ _ _ _ h.blk]; exact b⟩

attribute [local go_sem] eqnil22
set_option maxHeartbeats 1000000 in
theorem checks11s (ao bo : Option Addr) (n c d : Nat) (f : Nat → Chk) (w : World) (hn : n ≤ 4096) (ha : ao.isNone = false) (e1 : ElemsIn w ao n (str fun i => (f i).1)) (e2 : ElemsIn w bo n (str fun i => (f i).2)) :
    Calls Trym.prog 11 #[.slice ao n c, .slice bo n d] w fun e w' => e = .returned (.slice (some ⟨w.heap.size, 0, none⟩) n n) ∧ ∃ arr, CkW w w' n n f arr := by
  obtain ⟨arr0, hz0, hmk⟩ := mk25 w n hn
  go_enter Trym.func11, Trym.ntmps11
  go_wp2_with fail
  go_loopw [6] (fun i wr => ∃ k : Nat, k ≤ n ∧ i = .int .i64 k ∧ ∃ arr, CkW w wr n k f arr) (fun i _ => n - (intOf i).toNat)
  case atStart => exact ⟨0, Nat.zero_le _, rfl, arr0, heap_alloc_new _ _, hz0, Chg.alloc _ _ _, fun i h => by omega⟩
  case round =>
    obtain ⟨k, hk, rfl, arr, hR⟩ := hrel
    by_cases hlt : k < n
    · obtain ⟨b1, off1, rfl, x1⟩ := e1 k hlt
      obtain ⟨b2, off2, rfl, x2⟩ := e2 k hlt
      have y1 := hR.chg.cell x1 (by simp)
      have y2 := hR.chg.cell x2 (by simp)
      obtain ⟨v0, v1, r0, r1, s0, s1⟩ := hR.room hlt
      have kk : (0 : Int) ≤ (k : Int) := by omega
      have kn : (k : Int) < (n : Int) := by omega
      have HR : Hid (CkW w wr n k f arr) := hR
      clear hR x1 x2 e1 e2 hmk
      go_wp2_with fail
      go_region
      go_wp2
      go_roundw
      case rel => exact ⟨k + 1, by omega, by go_num, _, (HR.out.step hlt (Chg.refl _ _)).drew⟩
      case measure => simp [intOf]; omega
    · have hkn : k = n := by omega
      subst hkn
      have HR : Hid (CkW w wr k k f arr) := hR
      clear hR
      go_wp2
      go_ret
      exact ⟨rfl, arr, HR.out⟩
theorem checks11n (bo : Option Addr) (n c m d : Nat) (w : World) : Calls Trym.prog 11 #[.slice none n c, .slice bo m d] w fun e w' => e = .returned (.slice none 0 0) ∧ w' = w := by
  go_enter Trym.func11, Trym.ntmps11
  go_wp2
  go_ret
  exact ⟨rfl, rfl⟩
/-- the checks made of names and texts -/
theorem checks11 (ao bo : Option Addr) (n c d : Nat) (f : Nat → Chk) (w : World) (hn : n ≤ 4096) (hz : ao = none → n = 0) (e1 : ElemsIn w ao n (str fun i => (f i).1)) (e2 : ElemsIn w bo n (str fun i => (f i).2)) :
    Calls Trym.prog 11 #[.slice ao n c, .slice bo n d] w fun e w' => ∃ o, e = .returned (.slice o n n) ∧ Chg (fun _ => False) w w' ∧ ChksIn w' o n f := by
  cases ao with
  | none =>
    obtain rfl := hz rfl
    exact (checks11n bo 0 c 0 d w).mono fun e w' ⟨h1, h2⟩ => ⟨none, h1, by rw [h2]; exact Chg.refl _ _, fun i hi => by omega⟩
  | some a => exact (checks11s (some a) bo n c d f w hn rfl e1 e2).mono fun e w' ⟨h1, arr, h2⟩ => ⟨_, h1, h2.chg, h2.in_⟩

theorem eql31 (w : World) (a b : Chk) : (binOp .eql 31 (.agg #[.string a.1, .string a.2]) (.agg #[.string b.1, .string b.2])).run Trym.prog w = .ok (.bool (eqC a b)) w := by
  have := equal31 w a b
  unfold encC at this
  simp [binOp, this]
theorem neq31 (w : World) (a b : Chk) : (binOp .neq 31 (.agg #[.string a.1, .string a.2]) (.agg #[.string b.1, .string b.2])).run Trym.prog w = .ok (.bool (!eqC a b)) w := by
  have := equal31 w a b
  unfold encC at this
  simp [binOp, this]

theorem eqC_true {a b : Chk} (h : a = b) : eqC a b = true := (eqC_iff a b).2 h
theorem eqC_false {a b : Chk} (h : a ≠ b) : eqC a b = false := by
  cases e : eqC a b
  · rfl
  · exact absurd ((eqC_iff a b).1 e) h

theorem drewN_add (w : World) (a b : Nat) : (w.drewN a).drewN b = w.drewN (a + b) := by simp [World.drewN, Nat.add_assoc]
theorem chg_drewN (S : Nat → Prop) (w : World) (n : Nat) : Chg S w (w.drewN n) := ⟨rfl, rfl, rfl, Nat.le_refl _, fun _ _ _ => rfl⟩
attribute [local go_sem high] eql31 neq31
set_option maxHeartbeats 1000000 in
theorem distinct12 (ao : Option Addr) (n c : Nat) (f : Nat → Chk) (w : World) (hn : n ≤ 4096) (h : ChksIn w ao n f) :
    Calls Trym.prog 12 #[.slice ao n c] w fun e w' => ((e = .returned (.bool true) ∧ ∀ i j, i < j → j < n → f i ≠ f j) ∨ e = .returned (.bool false)) ∧ ∃ m, w' = w.drewN m := by
  go_enter Trym.func12, Trym.ntmps12
  go_wp2_with fail
  go_loopw [3] (fun i wr => ∃ k : Nat, k ≤ n ∧ i = .int .i64 k ∧ (∀ x y, x < y → y < k → f x ≠ f y) ∧ ∃ m, wr = w.drewN m) (fun i _ => n - (intOf i).toNat)
  case atStart => exact ⟨0, Nat.zero_le _, rfl, fun x y _ h => by omega, 0, rfl⟩
  case round =>
    obtain ⟨k, hk, rfl, hd, m, rfl⟩ := hrel
    have HD : Hid (∀ x y, x < y → y < k → f x ≠ f y) := hd
    clear hd
    by_cases hlt : k < n
    · have z1 : (k : Int) < (n : Int) := by omega
      go_wp2_with fail
      go_loopw [4] (fun i wr => ∃ j : Nat, j ≤ k ∧ i = .int .i64 j ∧ (∀ x, x < j → f x ≠ f k) ∧ ∃ m, wr = w.drewN m) (fun i _ => k - (intOf i).toNat)
      case atStart => exact ⟨0, Nat.zero_le _, rfl, fun x h => by omega, m, rfl⟩
      case round =>
        obtain ⟨j, hj, rfl, hd, m2, rfl⟩ := hrel
        have HD2 : Hid (∀ x, x < j → f x ≠ f k) := hd
        clear hd
        by_cases hlt2 : j < k
        · obtain ⟨b, off, rfl, x0, x1⟩ := h k hlt
          have x2 : w.cell? ⟨b, off + j * 2, none⟩ = some (.string (f j).1) ∧ w.cell? ⟨b, off + j * 2 + 1, none⟩ = some (.string (f j).2) := by
            obtain ⟨b', off', e', p0, p1⟩ := h j (by omega)
            simp at e'
            obtain ⟨rfl, rfl⟩ := e'
            exact ⟨p0, p1⟩
          obtain ⟨x2, x3⟩ := x2
          have z2 : (j : Int) < (k : Int) := by omega
          have z3 : (j : Int) < (n : Int) := by omega
          clear h
          by_cases he : f j = f k
          · have he2 : eqC (f j) (f k) = true := eqC_true he
            clear he
            go_wp2_with fail
            go_quiet (fail)
            go_wp2
            go_ret
            exact ⟨.inr rfl, m2 + nq, drewN_add _ _ _⟩
          · have he2 : eqC (f j) (f k) = false := eqC_false he
            have HE : Hid (f j ≠ f k) := he
            clear he
            go_wp2_with fail
            go_quiet (fail)
            go_wp2
            go_roundw
            case rel => exact ⟨j + 1, by omega, by go_num, fun x hx => by
              rcases Nat.lt_or_ge x j with hxj | hxj
              · exact HD2.out x hxj
              · obtain rfl : x = j := by omega
                exact HE.out, m2 + nq, rfl⟩
            case measure => simp [intOf]; omega
        · obtain rfl : j = k := by omega
          go_wp2
          go_roundw
          case rel => exact ⟨j + 1, by omega, by go_num, fun x y hxy hy => by
            rcases Nat.lt_or_ge y j with hyj | hyj
            · exact HD.out x y hxy hyj
            · obtain rfl : y = j := by omega
              exact HD2.out x hxy, m2, rfl⟩
          case measure => simp [intOf]; omega
    · obtain rfl : k = n := by omega
      go_wp2
      go_ret
      exact ⟨.inl ⟨rfl, HD.out⟩, m, rfl⟩

/-- some one of the first n is c -/
def hasB (f : Nat → Chk) (c : Chk) : Nat → Bool
  | 0 => false
  | n + 1 => hasB f c n || eqC (f n) c
theorem hasB_iff (f : Nat → Chk) (c : Chk) (n : Nat) : hasB f c n = true ↔ ∃ i, i < n ∧ f i = c := by
  induction n with
  | zero => simp [hasB]
  | succ n ih =>
    rw [hasB, Bool.or_eq_true, ih, eqC_iff]
    constructor
    · rintro (⟨i, h1, h2⟩ | h)
      · exact ⟨i, by omega, h2⟩
      · exact ⟨n, by omega, h⟩
    · rintro ⟨i, h1, h2⟩
      rcases Nat.lt_or_ge i n with h | h
      · exact .inl ⟨i, h, h2⟩
      · obtain rfl : i = n := by omega
        exact .inr h2

set_option maxHeartbeats 1000000 in
theorem has14 (ao : Option Addr) (n c : Nat) (f : Nat → Chk) (q : Chk) (w : World) (hn : n ≤ 4096) (h : ChksIn w ao n f) :
    Calls Trym.prog 14 #[.slice ao n c, .agg #[.string q.1, .string q.2]] w fun e w' => e = .returned (.bool (hasB f q n)) ∧ Chg (fun _ => False) w w' := by
  have q0 : (w.alloc (.cells #[.string q.1, .string q.2] 31)).cell? ⟨w.heap.size, 0, none⟩ = some (.string q.1) := cell_of_row _ _ 0 _ _ _ (heap_alloc_new _ _)
  have q1 : (w.alloc (.cells #[.string q.1, .string q.2] 31)).cell? ⟨w.heap.size, 1, none⟩ = some (.string q.2) := cell_of_row _ _ 1 _ _ _ (heap_alloc_new _ _)
  have hc : Chg (fun _ => False) w (w.alloc (.cells #[.string q.1, .string q.2] 31)) := Chg.alloc _ _ _
  have H : Hid (ChksIn (w.alloc (.cells #[.string q.1, .string q.2] 31)) ao n f ∧ Chg (fun _ => False) w (w.alloc (.cells #[.string q.1, .string q.2] 31))) := ⟨h.new hc, hc⟩
  clear h hc
  go_enter Trym.func14, Trym.ntmps14
  go_wp2_with fail
  generalize w.alloc (.cells #[.string q.1, .string q.2] 31) = w1 at *
  generalize w.heap.size = B at *
  go_loopw [5] (fun i wr => ∃ k : Nat, k ≤ n ∧ i = .int .i64 k ∧ hasB f q k = false ∧ ∃ m, wr = w1.drewN m) (fun i _ => n - (intOf i).toNat)
  case atStart => exact ⟨0, Nat.zero_le _, rfl, rfl, 0, rfl⟩
  case round =>
    obtain ⟨k, hk, rfl, hd, m, rfl⟩ := hrel
    by_cases hlt : k < n
    · obtain ⟨b, off, rfl, x0, x1⟩ := H.out.1 k hlt
      have z1 : (k : Int) < (n : Int) := by omega
      have HD : Hid (hasB f q k = false) := hd
      clear hd
      cases he : eqC (f k) q
      · go_wp2_with fail
        go_quiet (fail)
        go_wp2
        go_roundw
        case rel => exact ⟨k + 1, by omega, by go_num, by rw [hasB, HD.out, he]; rfl, m + nq, rfl⟩
        case measure => simp [intOf]; omega
      · go_wp2_with fail
        go_quiet (fail)
        go_wp2
        go_ret
        refine ⟨?_, H.out.2.trans ((chg_drewN _ _ _).trans (chg_drewN _ _ _))⟩
        rw [(hasB_iff f q n).2 ⟨k, hlt, (eqC_iff _ _).1 he⟩]
        rfl
    · obtain rfl : k = n := by omega
      have HD : Hid (hasB f q k = false) := hd
      clear hd
      go_wp2
      go_ret
      refine ⟨?_, H.out.2.trans (chg_drewN _ _ _)⟩
      rw [HD.out]
      rfl
end Go.Proofs.Qxb6600392aMods
