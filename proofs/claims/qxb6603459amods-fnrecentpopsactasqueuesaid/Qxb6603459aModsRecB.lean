import Derived.Test.Qxb6603459aModsRecA
namespace Go.Proofs.Qxb6603459aMods
open Go.RowKit Go.MapFns

def arrN (n : Nat) (f : Nat → Value) : Array Value := (Array.range n).map f
theorem size_arrN (n : Nat) (f : Nat → Value) : (arrN n f).size = n := by simp [arrN]
theorem get_arrN {n i : Nat} (f : Nat → Value) (h : i < n) : (arrN n f)[i]? = some (f i) := by simp [arrN, h]
theorem arrN_of {n : Nat} {f : Nat → Value} {arr : Array Value} (hs : arr.size = n) (h : ∀ i, i < n → arr[i]? = some (f i)) : arr = arrN n f := by
  apply Array.ext_getElem?
  intro i
  by_cases hi : i < n
  · rw [h i hi, get_arrN f hi]
  · rw [Array.getElem?_eq_none (by omega), Array.getElem?_eq_none (by rw [size_arrN]; omega)]

theorem eqnil37 (w : World) (a : Option Addr) (n c : Nat) : (binOp .eql 37 (.slice a n c) (.slice none 0 0)).run Trym.prog w = .ok (.bool a.isNone) w :=
  Lib.run_eql_slice_nil w 37 5 a n c 0 0 Trym.underlying37
theorem eqnil35 (w : World) (a : Option Addr) (n c : Nat) : (binOp .eql 35 (.slice a n c) (.slice none 0 0)).run Trym.prog w = .ok (.bool a.isNone) w :=
  Lib.run_eql_slice_nil w 35 2 a n c 0 0 Trym.underlying35
theorem eqnil36 (w : World) (a : Option Addr) (n c : Nat) : (binOp .eql 36 (.slice a n c) (.slice none 0 0)).run Trym.prog w = .ok (.bool a.isNone) w :=
  Lib.run_eql_slice_nil w 36 51 a n c 0 0 Trym.underlying36
theorem Trym.info5 : (Trym.prog.info? 5).map (fun i => (i.zero, i.size, i.bytes)) = some (some (.int .u8 0), 1, 1) := by kernel_rfl
theorem Trym.info2 : (Trym.prog.info? 2).map (fun i => (i.zero, i.size, i.bytes)) = some (some (.int .i64 0), 1, 8) := by kernel_rfl
theorem Trym.info51 : (Trym.prog.info? 51).map (fun i => (i.zero, i.size, i.bytes)) = some (some (.agg #[.int .i64 0, .slice none 0 0, .int .i64 0]), 3, 40) := by kernel_rfl
theorem made1 {z : Value} (hz : z.cells = #[z]) (n : Nat) : madeCells z.cells (n * 1) = Array.replicate n z := by
  apply Array.ext
  · simp [madeCells]
  · intro j h1 h2
    simp [madeCells, hz]
    rw [Nat.mod_one]; rfl
theorem mk37 (w : World) (n c : Nat) (h : n ≤ c) (hc : c ≤ 1048576) : (Instr.makeSlice 37 (.int .i64 n) (.int .i64 c)).run Trym.prog w =
   .ok (.slice (some ⟨w.heap.size, 0, none⟩) n c) (w.alloc (.cells (Array.replicate c (.int .u8 0)) 5)) := by
  obtain ⟨i, hi, hz, hs, hb⟩ := info_parts Trym.info5
  rw [run_make w 37 5 i _ Trym.underlying37 hi hz .i64 .i64 n c (by omega) (by omega) (by rw [hb]; omega) (by omega)]
  rw [hs, Int.toNat_natCast, Int.toNat_natCast, made1 rfl]
theorem mk35 (w : World) (n : Nat) (hc : n ≤ 65536) : (Instr.makeSlice 35 (.int .i64 n) (.int .i64 n)).run Trym.prog w =
   .ok (.slice (some ⟨w.heap.size, 0, none⟩) n n) (w.alloc (.cells (Array.replicate n (.int .i64 0)) 2)) := by
  obtain ⟨i, hi, hz, hs, hb⟩ := info_parts Trym.info2
  rw [run_make w 35 2 i _ Trym.underlying35 hi hz .i64 .i64 n n (by omega) (by omega) (by rw [hb]; omega) (by omega)]
  rw [hs, Int.toNat_natCast, made1 rfl]
theorem mk36 (w : World) (n : Nat) (hc : n ≤ 4096) : ∃ arr, arr.size = n * 3 ∧ (Instr.makeSlice 36 (.int .i64 n) (.int .i64 n)).run Trym.prog w =
   .ok (.slice (some ⟨w.heap.size, 0, none⟩) n n) (w.alloc (.cells arr 51)) := by
  obtain ⟨i, hi, hz, hs, hb⟩ := info_parts Trym.info51
  refine ⟨_, ?_, run_make w 36 51 i _ Trym.underlying36 hi hz .i64 .i64 n n (by omega) (by omega) (by rw [hb]; omega) (by omega)⟩
  rw [hs, size_madeCells]; simp
attribute [local go_sem] eqnil37 eqnil35 mk37 mk35

set_option maxHeartbeats 400000 in
theorem clone19 (ao : Option Addr) (n c : Nat) (f : Nat → Int) (w : World) (hn : n ≤ 1048576) (ha : ao.isNone = false) (hc : ElemsIn w ao n (byt f)) :
    Calls Trym.prog 19 #[.slice ao n c] w fun e w' => e = .returned (.slice (some ⟨w.heap.size, 0, none⟩) n n) ∧ w' = w.alloc (.cells (arrN n (byt f)) 5) := by
  go_enter Trym.func19, Trym.ntmps19
  go_wp2_with fail
  go_loopw [4] (fun i wr => ∃ k : Nat, k ≤ n ∧ i = .int .i64 k ∧ ∃ arr, wr = w.alloc (.cells arr 5) ∧ arr.size = n ∧ ∀ i, i < k → arr[i]? = some (byt f i)) (fun i _ => n - (intOf i).toNat)
  case atStart => exact ⟨0, Nat.zero_le _, rfl, _, rfl, by simp, fun i h => by omega⟩
  case round =>
    obtain ⟨k, hk, rfl, arr, rfl, hsz, harr⟩ := hrel
    have HA : Hid (∀ i, i < k → arr[i]? = some (byt f i)) := harr
    clear harr
    by_cases hlt : k < n
    · obtain ⟨b, off, rfl, c0⟩ := hc k hlt
      have hb : b < w.heap.size := block_lt_of_cell c0
      have hne : ¬ w.heap.size = b := by omega
      have hka : k < arr.size := by omega
      clear hc ha
      go_wp2_with fail
      go_roundw
      case rel =>
        refine ⟨k + 1, by omega, by go_num, _, rfl, by simp [hsz], fun i hi => ?_⟩
        by_cases e : i = k
        · subst e; simp [hka]
        · rw [Array.getElem?_setIfInBounds, if_neg (by omega)]; exact HA.out i (by omega)
      case measure => simp [intOf]; omega
    · go_wp2
      go_ret
      have : k = n := by omega
      subst this
      exact ⟨rfl, by rw [arrN_of hsz HA.out]⟩
set_option maxHeartbeats 400000 in
theorem clone19_nil (n c : Nat) (w : World) : Calls Trym.prog 19 #[.slice none n c] w fun e w' => e = .returned (.slice none 0 0) ∧ w' = w := by
  go_enter Trym.func19, Trym.ntmps19
  go_wp2
  go_ret
  exact ⟨rfl, rfl⟩
set_option maxHeartbeats 400000 in
theorem clone17 (ao : Option Addr) (n c : Nat) (f : Nat → Int) (w : World) (hn : n ≤ 65536) (ha : ao.isNone = false) (hc : ElemsIn w ao n (i6 f)) :
    Calls Trym.prog 17 #[.slice ao n c] w fun e w' => e = .returned (.slice (some ⟨w.heap.size, 0, none⟩) n n) ∧ w' = w.alloc (.cells (arrN n (i6 f)) 2) := by
  go_enter Trym.func17, Trym.ntmps17
  go_wp2_with fail
  go_loopw [4] (fun i wr => ∃ k : Nat, k ≤ n ∧ i = .int .i64 k ∧ ∃ arr, wr = w.alloc (.cells arr 2) ∧ arr.size = n ∧ ∀ i, i < k → arr[i]? = some (i6 f i)) (fun i _ => n - (intOf i).toNat)
  case atStart => exact ⟨0, Nat.zero_le _, rfl, _, rfl, by simp, fun i h => by omega⟩
  case round =>
    obtain ⟨k, hk, rfl, arr, rfl, hsz, harr⟩ := hrel
    have HA : Hid (∀ i, i < k → arr[i]? = some (i6 f i)) := harr
    clear harr
    by_cases hlt : k < n
    · obtain ⟨b, off, rfl, c0⟩ := hc k hlt
      have hb : b < w.heap.size := block_lt_of_cell c0
      have hne : ¬ w.heap.size = b := by omega
      have hka : k < arr.size := by omega
      clear hc ha
      go_wp2_with fail
      go_roundw
      case rel =>
        refine ⟨k + 1, by omega, by go_num, _, rfl, by simp [hsz], fun i hi => ?_⟩
        by_cases e : i = k
        · subst e; simp [hka]
        · rw [Array.getElem?_setIfInBounds, if_neg (by omega)]; exact HA.out i (by omega)
      case measure => simp [intOf]; omega
    · go_wp2
      go_ret
      have : k = n := by omega
      subst this
      exact ⟨rfl, by rw [arrN_of hsz HA.out]⟩
set_option maxHeartbeats 400000 in
theorem clone17_nil (n c : Nat) (w : World) : Calls Trym.prog 17 #[.slice none n c] w fun e w' => e = .returned (.slice none 0 0) ∧ w' = w := by
  go_enter Trym.func17, Trym.ntmps17
  go_wp2
  go_ret
  exact ⟨rfl, rfl⟩

/-- what a clone leaves: nil for nil; else a row of its own -/
def Cl (w w' : World) (o ao : Option Addr) (n : Nat) (e : TypeId) (f : Nat → Value) : Prop :=
  (ao = none ∧ o = none ∧ n = 0 ∧ w' = w) ∨ (ao.isNone = false ∧ o = some ⟨w.heap.size, 0, none⟩ ∧ w' = w.alloc (.cells (arrN n f) e))
theorem Cl.chg {w w' : World} {o ao : Option Addr} {n : Nat} {e : TypeId} {f : Nat → Value} (h : Cl w w' o ao n e f) : Chg (fun _ => False) w w' := by
  rcases h with ⟨_, _, _, rfl⟩ | ⟨_, _, rfl⟩
  · exact Chg.refl _ _
  · exact Chg.alloc _ _ _
theorem Cl.isNone {w w' : World} {o ao : Option Addr} {n : Nat} {e : TypeId} {f : Nat → Value} (h : Cl w w' o ao n e f) : o.isNone = ao.isNone := by
  rcases h with ⟨rfl, rfl, _, _⟩ | ⟨h1, rfl, _⟩
  · rfl
  · rw [h1]; rfl
theorem Cl.elems {w w' : World} {o ao : Option Addr} {n : Nat} {e : TypeId} {f : Nat → Value} (h : Cl w w' o ao n e f) : ElemsIn w' o n f := by
  rcases h with ⟨_, _, rfl, _⟩ | ⟨_, rfl, rfl⟩
  · intro i hi; omega
  · intro i hi
    refine ⟨_, 0, rfl, ?_⟩
    rw [Nat.zero_add, cell_of_row _ _ i _ _ _ (heap_alloc_new _ _), get_arrN f hi]
theorem ElemsIn.chg {w w' : World} {ao : Option Addr} {n : Nat} {f : Nat → Value} {S : Nat → Prop} (h : ElemsIn w ao n f) (hc : Chg S w w') (hs : ∀ b off, ao = some ⟨b, off, none⟩ → ¬ S b) : ElemsIn w' ao n f := by
  intro i hi
  obtain ⟨b, off, e, hcell⟩ := h i hi
  exact ⟨b, off, e, hc.cell hcell (hs b off e)⟩

theorem bytes19 (ao : Option Addr) (n c : Nat) (f : Nat → Int) (w : World) (hn : n ≤ 1048576) (hz : ao = none → n = 0) (hc : ElemsIn w ao n (byt f)) :
    Calls Trym.prog 19 #[.slice ao n c] w fun e w' => ∃ o, e = .returned (.slice o n n) ∧ Cl w w' o ao n 5 (byt f) := by
  cases ao with
  | none =>
    obtain rfl := hz rfl
    exact (clone19_nil 0 c w).mono fun e w' ⟨h1, h2⟩ => ⟨none, h1, .inl ⟨rfl, rfl, rfl, h2⟩⟩
  | some a => exact (clone19 (some a) n c f w hn rfl hc).mono fun e w' ⟨h1, h2⟩ => ⟨_, h1, .inr ⟨rfl, rfl, h2⟩⟩
theorem ints17 (ao : Option Addr) (n c : Nat) (f : Nat → Int) (w : World) (hn : n ≤ 65536) (hz : ao = none → n = 0) (hc : ElemsIn w ao n (i6 f)) :
    Calls Trym.prog 17 #[.slice ao n c] w fun e w' => ∃ o, e = .returned (.slice o n n) ∧ Cl w w' o ao n 2 (i6 f) := by
  cases ao with
  | none =>
    obtain rfl := hz rfl
    exact (clone17_nil 0 c w).mono fun e w' ⟨h1, h2⟩ => ⟨none, h1, .inl ⟨rfl, rfl, rfl, h2⟩⟩
  | some a => exact (clone17 (some a) n c f w hn rfl hc).mono fun e w' ⟨h1, h2⟩ => ⟨_, h1, .inr ⟨rfl, rfl, h2⟩⟩
end Go.Proofs.Qxb6603459aMods
