/- stayInPlace, its group always 0. Own work. -/
import Derived.Test.Qxb6600392aModsC
import Derived.Deep.DeepCutAuto
namespace Go.Proofs.Qxb6600392aMods
open Go.RowKit Go.MapFns
set_option linter.unusedVariables false

theorem zero3 (w : World) : (zeroValue 3).run Trym.prog w = .ok (.int .i64 0) w := by kernel_rfl
theorem zero4 (w : World) : (zeroValue 4).run Trym.prog w = .ok (.bool false) w := by kernel_rfl
def arrN (n : Nat) (f : Nat → Value) : Array Value := (Array.range n).map f
theorem size_arrN (n : Nat) (f : Nat → Value) : (arrN n f).size = n := by simp [arrN]
theorem get_arrN {n i : Nat} (f : Nat → Value) (h : i < n) : (arrN n f)[i]? = some (f i) := by simp [arrN, h]
theorem arrN_of {n : Nat} {f : Nat → Value} {arr : Array Value} (hs : arr.size = n) (h : ∀ i, i < n → arr[i]? = some (f i)) : arr = arrN n f := by
  apply Array.ext_getElem?
  intro i
  by_cases hi : i < n
  · rw [h i hi, get_arrN f hi]
  · rw [Array.getElem?_eq_none (by omega), Array.getElem?_eq_none (by rw [size_arrN]; omega)]
theorem set_arrN {n k : Nat} {f g : Nat → Value} (h : ∀ i, i < n → i ≠ k → f i = g i) : (arrN n f).setIfInBounds k (g k) = arrN n g := by
  refine arrN_of (by simp [size_arrN]) fun i hi => ?_
  rw [Array.getElem?_setIfInBounds]
  by_cases e : k = i
  · subst e; simp [size_arrN, hi]
  · rw [if_neg e, get_arrN f hi, h i hi (fun h => e h.symm)]

/-- the next object can stay, all ahead of it having stayed -/
def runOk (old : Nat → Int) (i : Nat) : Bool := decide (0 ≤ old i) && (decide (i = 0) || decide (old (i - 1) < old i))
/-- how many of the first k stay -/
def runLen (old : Nat → Int) : Nat → Nat
  | 0 => 0
  | k + 1 => if runLen old k = k ∧ runOk old k = true then k + 1 else runLen old k
theorem runLen_le (old : Nat → Int) : ∀ k, runLen old k ≤ k
  | 0 => Nat.le_refl _
  | k + 1 => by
    have := runLen_le old k
    rw [runLen]
    split <;> omega

def lastF (old : Nat → Int) (k : Nat) : Int → Option Value := fun x => if eqI x 0 && decide (0 < runLen old k) then some (.int .i64 (old (runLen old k - 1))) else none
def closF (old : Nat → Int) (k : Nat) : Int → Option Value := fun x => if eqI x 0 && decide (runLen old k < k) then some (.bool true) else none

structure StW (w wr : World) (Rb M1 M2 n k : Nat) (old : Nat → Int) : Prop where
  row : wr.heap[Rb]? = some (.cells (arrN n fun i => .bool (decide (i < runLen old k))) 4 (0, 0))
  m1 : MapFn eqI encI wr M1 (lastF old k)
  m2 : MapFn eqI encI wr M2 (closF old k)
  chg : Chg (fun _ => False) w wr
  r0 : w.heap.size ≤ Rb ∧ w.heap.size ≤ M1 ∧ w.heap.size ≤ M2
  ne : Rb ≠ M1 ∧ Rb ≠ M2 ∧ M1 ≠ M2

/-- closed: nothing more stays -/
theorem StW.shut {w wr : World} {Rb M1 M2 n k : Nat} {old : Nat → Int} {ob : Obj} (h : StW w wr Rb M1 M2 n k old) (hno : ¬ (runLen old k = k ∧ runOk old k = true)) (hu : MapFn eqI encI (setO wr M2 ob) M2 (upd eqI (closF old k) 0 (.bool true))) : StW w (setO wr M2 ob) Rb M1 M2 n (k + 1) old := by
  have e : runLen old (k + 1) = runLen old k := by rw [runLen, if_neg hno]
  have hle := runLen_le old k
  obtain ⟨n1, n2, n3⟩ := h.ne
  refine ⟨?_, ?_, ?_, ?_, h.r0, h.ne⟩
  · rw [setO_other n2, e]; exact h.row
  · have : lastF old (k + 1) = lastF old k := by unfold lastF; rw [e]
    rw [this]
    exact h.m1.congr (setO_other n3)
  · refine hu.ext fun x => ?_
    unfold upd closF
    rw [e]
    by_cases hx : eqI x 0 = true
    · simp [hx]; omega
    · simp [hx]
  · exact h.chg.into (Chg.setO _ _ _) (fun i hi => by have := h.r0.2.2; omega)

/-- one more stays -/
theorem StW.stay {w wr : World} {Rb M1 M2 n k : Nat} {old : Nat → Int} {ob : Obj} (h : StW w wr Rb M1 M2 n k old) (hr : runLen old k = k) (hyes : runOk old k = true) (hk : k < n)
    (hu : MapFn eqI encI (setO (wr.setCell ⟨Rb, k, none⟩ (.bool true)) M1 ob) M1 (upd eqI (lastF old k) 0 (.int .i64 (old k)))) : StW w (setO (wr.setCell ⟨Rb, k, none⟩ (.bool true)) M1 ob) Rb M1 M2 n (k + 1) old := by
  have e : runLen old (k + 1) = k + 1 := by rw [runLen, if_pos ⟨hr, hyes⟩]
  obtain ⟨n1, n2, n3⟩ := h.ne
  have hc1 : Chg (· = Rb) wr (wr.setCell ⟨Rb, k, none⟩ (.bool true)) := Chg.setCell _ _ _ rfl
  have hrow : (wr.setCell ⟨Rb, k, none⟩ (.bool true)).heap[Rb]? = some (.cells (arrN n fun i => .bool (decide (i < k + 1))) 4 (0, 0)) := by
    have := heap_setCell_same wr Rb k _ 4 (.bool true) h.row
    rw [this, hr]
    congr 2
    have e2 : (.bool true : Value) = (fun i => (.bool (decide (i < k + 1)) : Value)) k := by simp
    rw [e2]
    exact set_arrN (g := fun i => (.bool (decide (i < k + 1)) : Value)) fun i hi hne => by
      have : (i < k) ↔ (i < k + 1) := by omega
      simp [this]
  refine ⟨?_, ?_, ?_, ?_, h.r0, h.ne⟩
  · rw [setO_other n1, e]; exact hrow
  · refine hu.ext fun x => ?_
    unfold upd lastF
    rw [e]
    by_cases hx : eqI x 0 = true
    · simp [hx]
    · simp [hx]
  · have : closF old (k + 1) = closF old k := by unfold closF; rw [e, hr]; simp
    rw [this]
    refine h.m2.congr ?_
    rw [setO_other n3.symm]
    exact hc1.block _ (h.m2.lt) (fun e => n2 e.symm)
  · refine (h.chg.into hc1 (fun i hi => by have := h.r0.1; omega)).into (Chg.setO _ _ _) (fun i hi => by have := h.r0.2.1; omega)

theorem Trym.info4 : (Trym.prog.info? 4).map (fun i => (i.zero, i.size, i.bytes)) = some (some (.bool false), 1, 1) := by kernel_rfl
theorem mk83 (w : World) (n : Nat) (hc : n ≤ 4096) : (Instr.makeSlice 83 (.int .i64 n) (.int .i64 n)).run Trym.prog w =
   .ok (.slice (some ⟨w.heap.size, 0, none⟩) n n) (w.alloc (.cells (arrN n fun i => .bool false) 4)) := by
  obtain ⟨i, hi, hz, hs, hb⟩ := info_parts Trym.info4
  rw [run_make w 83 4 i _ Trym.underlying83 hi hz .i64 .i64 n n (by omega) (by omega) (by rw [hb]; omega) (by omega)]
  congr 3
  refine arrN_of (by rw [hs, size_madeCells]; simp) fun j hj => ?_
  simp [madeCells, hs, hj, Value.cells, Nat.mod_one]
attribute [local go_sem] run_makeMap_fn

set_option maxHeartbeats 4000000 in
set_option maxRecDepth 100000 in
theorem stay41 (ao bo : Option Addr) (n c d : Nat) (old : Nat → Int) (w : World) (hn : n ≤ 4096) (e1 : ElemsIn w ao n fun i => .int .i64 (old i)) (e2 : ElemsIn w bo n fun _ => .int .i64 0) :
    Calls Trym.prog 41 #[.slice ao n c, .slice bo n d] w fun e w' => e = .returned (.slice (some ⟨w.heap.size, 0, none⟩) n n) ∧ Chg (fun _ => False) w w' ∧ ElemsIn w' (some ⟨w.heap.size, 0, none⟩) n (fun i => .bool (decide (i < runLen old n))) ∧ w.heap.size < w'.heap.size := by
  have hmk := mk83 w n hn
  have HE : Hid (ElemsIn w ao n (fun i => .int .i64 (old i)) ∧ ElemsIn w bo n fun _ => .int .i64 0) := ⟨e1, e2⟩
  clear e1 e2
  have H0 : Hid (StW w (((w.alloc (.cells (arrN n fun i => .bool false) 4)).alloc (.map #[] 0)).alloc (.map #[] 0)) w.heap.size (w.heap.size + 1) (w.heap.size + 1 + 1) n 0 old) := by
    have c1 : Chg (fun _ => False) w (w.alloc (.cells (arrN n fun i => .bool false) 4)) := Chg.alloc _ _ _
    have c2 : Chg (fun _ => False) (w.alloc (.cells (arrN n fun i => .bool false) 4)) ((w.alloc (.cells (arrN n fun i => .bool false) 4)).alloc (.map #[] 0)) := Chg.alloc _ _ _
    have c3 : Chg (fun _ => False) ((w.alloc (.cells (arrN n fun i => .bool false) 4)).alloc (.map #[] 0)) (((w.alloc (.cells (arrN n fun i => .bool false) 4)).alloc (.map #[] 0)).alloc (.map #[] 0)) := Chg.alloc _ _ _
    refine ⟨?_, ?_, ?_, (c1.trans c2).trans c3, ⟨by omega, by omega, by omega⟩, ⟨by omega, by omega, by omega⟩⟩
    · have h1 : (w.alloc (.cells (arrN n fun i => .bool false) 4)).heap[w.heap.size]? = some (.cells (arrN n fun i => .bool false) 4 (0, 0)) := heap_alloc_new _ _
      have h2 := (c2.trans c3).blk h1 (by simp)
      rw [h2]
      simp [runLen]
    · have h1 : MapFn eqI encI ((w.alloc (.cells (arrN n fun i => .bool false) 4)).alloc (.map #[] 0)) (w.alloc (.cells (arrN n fun i => .bool false) 4)).heap.size (fun _ => none) := MapFn.made _
      rw [show (w.alloc (.cells (arrN n fun i => .bool false) 4)).heap.size = w.heap.size + 1 by simp] at h1
      exact (h1.congr (c3.block _ h1.lt (by simp))).ext fun x => by simp [lastF, runLen]
    · have h1 : MapFn eqI encI (((w.alloc (.cells (arrN n fun i => .bool false) 4)).alloc (.map #[] 0)).alloc (.map #[] 0)) ((w.alloc (.cells (arrN n fun i => .bool false) 4)).alloc (.map #[] 0)).heap.size (fun _ => none) := MapFn.made _
      rw [show ((w.alloc (.cells (arrN n fun i => .bool false) 4)).alloc (.map #[] 0)).heap.size = w.heap.size + 1 + 1 by simp] at h1
      exact h1.ext fun x => by simp [closF, runLen]
  go_enter Trym.func41, Trym.ntmps41
  go_wp2_with fail
  clear hmk
  generalize ((w.alloc (.cells (arrN n fun i => .bool false) 4)).alloc (.map #[] 0)).alloc (.map #[] 0) = w0 at *
  generalize hM2 : w.heap.size + 1 + 1 = M2 at *
  generalize hM1 : w.heap.size + 1 = M1 at *
  generalize hRb : w.heap.size = Rb at *
  have HRb : Hid (w.heap.size = Rb) := hRb
  clear hM1 hM2 hRb
  go_loopw [20] (fun i wr => ∃ k : Nat, k ≤ n ∧ i = .int .i64 k ∧ StW w wr Rb M1 M2 n k old) (fun i _ => n - (intOf i).toNat)
  case atStart => exact ⟨0, Nat.zero_le _, rfl, H0.out⟩
  case round =>
    obtain ⟨k, hk, rfl, hS⟩ := hrel
    have HS : Hid (StW w wr Rb M1 M2 n k old) := hS
    clear hS H0
    by_cases hlt : k < n
    · obtain ⟨b1, off1, rfl, x1⟩ := HE.out.1 k hlt
      obtain ⟨b2, off2, rfl, x2⟩ := HE.out.2 k hlt
      have y1 := HS.out.chg.cell x1 (by simp)
      have y2 := HS.out.chg.cell x2 (by simp)
      have kn : (k : Int) < (n : Int) := by omega
      clear x1 x2
      have hle := runLen_le old k
      have L1 : (Instr.lookup 89 (.map (some M1)) (.int .i64 0) true).run Trym.prog wr = .ok (.tuple #[if 0 < runLen old k then .int .i64 (old (runLen old k - 1)) else .int .i64 0, .bool (decide (0 < runLen old k))]) wr := by
        have := run_lookup_fn key3 Trym.underlying89 HS.out.m1 (zero3 wr) 0 true
        rw [if_pos rfl] at this
        refine this.trans ?_
        unfold lastF
        by_cases h0 : 0 < runLen old k <;> simp [h0]
      have L2 : (Instr.lookup 90 (.map (some M2)) (.int .i64 0) false).run Trym.prog wr = .ok (.bool (decide (runLen old k < k))) wr := by
        have := run_lookup_fn key3 Trym.underlying90 HS.out.m2 (zero4 wr) 0 false
        rw [if_neg (by simp)] at this
        refine this.trans ?_
        unfold closF
        by_cases h0 : runLen old k < k <;> simp [h0]
      obtain ⟨ob2, hup2⟩ := run_update_fn key3 Trym.underlying90 HS.out.m2 0 (.bool true)
      have U2 : (Instr.mapUpdate 90 (.map (some M2)) (.int .i64 0) (.bool true)).run Trym.prog wr = .ok () (setO wr M2 ob2) := hup2.1
      have HU2 : Hid (MapFn eqI encI (setO wr M2 ob2) M2 (upd eqI (closF old k) 0 (.bool true))) := hup2.2
      clear hup2
      by_cases hr : runLen old k < k
      · have z1 : decide (runLen old k < k) = true := decide_eq_true hr
        rw [z1] at L2
        go_wp2_with fail
        go_roundw
        case rel => exact ⟨k + 1, by omega, by go_num, HS.out.shut (by omega) HU2.out⟩
        case measure => simp [intOf]; omega
      · have hr2 : runLen old k = k := by omega
        have HR : Hid (runLen old k = k) := hr2
        rw [hr2] at L1 L2
        have z1 : decide (k < k) = false := by simp
        rw [z1] at L2
        clear hr hr2 hle
        by_cases hneg : 0 ≤ old k
        · have z2 : decide (0 ≤ old k) = true := decide_eq_true hneg
          by_cases hk0 : 0 < k
          · have z3 : decide (0 < k) = true := decide_eq_true hk0
            rw [if_pos hk0, z3] at L1
            by_cases hcmp : old (k - 1) < old k
            · have z4 : decide (old (k - 1) < old k) = true := decide_eq_true hcmp
              have HOK : Hid (runOk old k = true) := by unfold Hid; simp [runOk, hneg, hcmp]
              have s0 : wr.cell? ⟨Rb, k, none⟩ = some (.bool (decide (k < runLen old k))) := by rw [cell_of_row _ _ _ _ _ _ HS.out.row]; exact get_arrN _ hlt
              have s1 : wr.frozen? ⟨Rb, k, none⟩ = false := frozen_of_row _ _ _ _ _ HS.out.row
              obtain ⟨ob1, hup1⟩ := run_update_fn2 key3 Trym.underlying89 HS.out.m1 0 (.int .i64 (old k))
              have hsame : (wr.setCell ⟨Rb, k, none⟩ (.bool true)).heap[M1]? = wr.heap[M1]? := heap_setCell_other wr _ _ _ (fun e => HS.out.ne.1 e.symm)
              have U1 : (Instr.mapUpdate 89 (.map (some M1)) (.int .i64 0) (.int .i64 (old k))).run Trym.prog (wr.setCell ⟨Rb, k, none⟩ (.bool true)) = .ok () (setO (wr.setCell ⟨Rb, k, none⟩ (.bool true)) M1 ob1) := (hup1 _ hsame).1
              have HU1 : Hid (MapFn eqI encI (setO (wr.setCell ⟨Rb, k, none⟩ (.bool true)) M1 ob1) M1 (upd eqI (lastF old k) 0 (.int .i64 (old k)))) := (hup1 _ hsame).2
              clear hup1 hsame
              go_wp2_with fail
              go_roundw
              case rel => exact ⟨k + 1, by omega, by go_num, HS.out.stay HR.out HOK.out hlt HU1.out⟩
              case measure => simp [intOf]; omega
            · have z4 : decide (old (k - 1) < old k) = false := decide_eq_false hcmp
              have HNO : Hid (¬ runOk old k = true) := by unfold Hid; simp [runOk, hneg]; omega
              go_wp2_with fail
              go_roundw
              case rel => exact ⟨k + 1, by omega, by go_num, HS.out.shut (fun h => HNO.out h.2) HU2.out⟩
              case measure => simp [intOf]; omega
          · have z3 : decide (0 < k) = false := decide_eq_false hk0
            rw [if_neg hk0, z3] at L1
            have HOK : Hid (runOk old k = true) := by unfold Hid; simp [runOk, hneg]; omega
            have s0 : wr.cell? ⟨Rb, k, none⟩ = some (.bool (decide (k < runLen old k))) := by rw [cell_of_row _ _ _ _ _ _ HS.out.row]; exact get_arrN _ hlt
            have s1 : wr.frozen? ⟨Rb, k, none⟩ = false := frozen_of_row _ _ _ _ _ HS.out.row
            obtain ⟨ob1, hup1⟩ := run_update_fn2 key3 Trym.underlying89 HS.out.m1 0 (.int .i64 (old k))
            have hsame : (wr.setCell ⟨Rb, k, none⟩ (.bool true)).heap[M1]? = wr.heap[M1]? := heap_setCell_other wr _ _ _ (fun e => HS.out.ne.1 e.symm)
            have U1 : (Instr.mapUpdate 89 (.map (some M1)) (.int .i64 0) (.int .i64 (old k))).run Trym.prog (wr.setCell ⟨Rb, k, none⟩ (.bool true)) = .ok () (setO (wr.setCell ⟨Rb, k, none⟩ (.bool true)) M1 ob1) := (hup1 _ hsame).1
            have HU1 : Hid (MapFn eqI encI (setO (wr.setCell ⟨Rb, k, none⟩ (.bool true)) M1 ob1) M1 (upd eqI (lastF old k) 0 (.int .i64 (old k)))) := (hup1 _ hsame).2
            clear hup1 hsame
            go_wp2_with fail
            go_roundw
            case rel => exact ⟨k + 1, by omega, by go_num, HS.out.stay HR.out HOK.out hlt HU1.out⟩
            case measure => simp [intOf]; omega
        · have z2 : decide (0 ≤ old k) = false := decide_eq_false hneg
          go_wp2_with fail
          go_roundw
          case rel => exact ⟨k + 1, by omega, by go_num, HS.out.shut (by simp [runOk]; omega) HU2.out⟩
          case measure => simp [intOf]; omega
    · obtain rfl : k = n := by omega
      go_wp2
      go_ret
      obtain rfl : w.heap.size = Rb := HRb.out
      refine ⟨rfl, HS.out.chg, fun i hi => ⟨_, 0, rfl, ?_⟩, blk_lt HS.out.row⟩
      rw [Nat.zero_add, cell_of_row _ _ _ _ _ _ HS.out.row]
      exact get_arrN _ hi
end Go.Proofs.Qxb6600392aMods
