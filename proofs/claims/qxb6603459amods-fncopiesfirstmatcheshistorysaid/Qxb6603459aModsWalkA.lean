import Derived.Test.Qxb6603459aModsRows
import Derived.Test.Qxb6603459aModsBase
import Derived.WalkSpells
import Derived.WalkLawsBesides
import Derived.Deep.QuietTactic
import Derived.BigQuiet
namespace Go.Proofs.Qxb6603459aMods
open Go.RowKit Go.MapFns

theorem eqnil22 (w : World) (a : Option Addr) (n c : Nat) : (binOp .eql 22 (.slice a n c) (.slice none 0 0)).run Trym.prog w = .ok (.bool a.isNone) w :=
  Lib.run_eql_slice_nil w 22 33 a n c 0 0 Trym.underlying22
theorem Trym.info33 : (Trym.prog.info? 33).map (fun i => (i.zero, i.size, i.bytes)) = some (some (.agg #[.int .u64 0, .int .u64 0, .int .u64 0, .int .u64 0]), 4, 32) := by kernel_rfl
theorem mk22 (w : World) (n c : Nat) (h : n ≤ c) (hc : c ≤ 1048576) : (Instr.makeSlice 22 (.int .i64 n) (.int .i64 c)).run Trym.prog w =
   .ok (.slice (some ⟨w.heap.size, 0, none⟩) n c) (w.alloc (.cells (Array.replicate (c * 4) (.int .u64 0)) 33)) := by
  obtain ⟨i, hi, hz, hs, hb⟩ := info_parts Trym.info33
  rw [run_make w 22 33 i _ Trym.underlying22 hi hz .i64 .i64 n c (by omega) (by omega) (by rw [hb]; omega) (by omega)]
  congr 3
  rw [hs]
  apply Array.ext
  · simp [madeCells]
  · intro j h1 h2
    simp [madeCells, Value.cells]
    have : j % 4 < 4 := Nat.mod_lt _ (by omega)
    rcases (show j % 4 = 0 ∨ j % 4 = 1 ∨ j % 4 = 2 ∨ j % 4 = 3 by omega) with e | e | e | e <;> simp [e]
attribute [local go_sem] eqnil22 mk22

def callVals (c : Int × Int × Int × Int) : List Value := [.int .u64 c.1, .int .u64 c.2.1, .int .u64 c.2.2.1, .int .u64 c.2.2.2]


def Row4 (cs : Nat → Int × Int × Int × Int) (arr : Array Value) (k : Nat) : Prop :=
  ∀ i, i < k → arr[i * 4]? = some (.int .u64 (cs i).1) ∧ arr[i * 4 + 1]? = some (.int .u64 (cs i).2.1) ∧ arr[i * 4 + 2]? = some (.int .u64 (cs i).2.2.1) ∧ arr[i * 4 + 3]? = some (.int .u64 (cs i).2.2.2)
def Cells4 (cs : Nat → Int × Int × Int × Int) (w : World) (ao : Option Addr) (n : Nat) : Prop :=
  ∀ i, i < n → ∃ b off, ao = some ⟨b, off, none⟩ ∧ w.cell? ⟨b, off + i * 4, none⟩ = some (.int .u64 (cs i).1) ∧ w.cell? ⟨b, off + i * 4 + 1, none⟩ = some (.int .u64 (cs i).2.1) ∧ w.cell? ⟨b, off + i * 4 + 2, none⟩ = some (.int .u64 (cs i).2.2.1) ∧ w.cell? ⟨b, off + i * 4 + 3, none⟩ = some (.int .u64 (cs i).2.2.2)

theorem row4_step {cs : Nat → Int × Int × Int × Int} {arr : Array Value} {k : Nat} (h : Row4 cs arr k) (hs : (k + 1) * 4 ≤ arr.size) :
    Row4 cs (lay arr (k * 4) [.int .u64 (cs k).1, .int .u64 (cs k).2.1, .int .u64 (cs k).2.2.1, .int .u64 (cs k).2.2.2]) (k + 1) := by
  intro i hi
  by_cases e : i = k
  · subst e
    have g := lay_in [.int .u64 (cs i).1, .int .u64 (cs i).2.1, .int .u64 (cs i).2.2.1, .int .u64 (cs i).2.2.2] arr (i * 4)
    exact ⟨g 0 (by simp; omega) (by simp), g 1 (by simp; omega) (by simp), g 2 (by simp; omega) (by simp), g 3 (by simp; omega) (by simp)⟩
  · obtain ⟨a, b, c, d⟩ := h i (by omega)
    rw [lay_out _ _ _ _ (by left; omega), lay_out _ _ _ _ (by left; omega), lay_out _ _ _ _ (by left; omega), lay_out _ _ _ _ (by left; omega)]
    exact ⟨a, b, c, d⟩

set_option maxHeartbeats 400000 in
theorem clone10 (ao : Option Addr) (n c : Nat) (cs : Nat → Int × Int × Int × Int) (w : World) (hn : n ≤ 4096) (ha : ao.isNone = false) (hc : Cells4 cs w ao n) :
    Calls Trym.prog 10 #[.slice ao n c] w fun e w' => e = .returned (.slice (some ⟨w.heap.size, 0, none⟩) n n) ∧ Chg (fun _ => False) w w' ∧ w'.heap.size = w.heap.size + 1 ∧
      ∃ arr, w'.heap[w.heap.size]? = some (.cells arr 33 (0, 0)) ∧ arr.size = n * 4 ∧ Row4 cs arr n := by
  have hn2 : n ≤ 1048576 := by omega
  go_enter Trym.func10, Trym.ntmps10
  go_wp2_with fail
  go_loopw [4] (fun i wr => ∃ k : Nat, k ≤ n ∧ i = .int .i64 k ∧ ∃ arr, wr.heap[w.heap.size]? = some (.cells arr 33 (0, 0)) ∧ arr.size = n * 4 ∧ Row4 cs arr k ∧ Chg (fun _ => False) w wr ∧ wr.heap.size = w.heap.size + 1) (fun i _ => n - (intOf i).toNat)
  case atStart => exact ⟨0, Nat.zero_le _, rfl, _, heap_alloc_new _ _, by simp, fun i h => by omega, Chg.alloc _ _ _, by simp⟩
  case round =>
    obtain ⟨k, hk, rfl, arr, harr, hsz, hrow, hchg, hwsz⟩ := hrel
    by_cases hlt : k < n
    · obtain ⟨b, off, rfl, c0, c1, c2, c3⟩ := hc k hlt
      have hb : b < w.heap.size := by simpa using block_lt_of_cell c0
      have hne : ¬ w.heap.size = b := by omega
      have d0 := hchg.cell c0 (by simp)
      have d1 := hchg.cell c1 (by simp)
      have d2 := hchg.cell c2 (by simp)
      have d3 := hchg.cell c3 (by simp)
      have HR : Hid (Row4 cs arr k ∧ Chg (fun _ => False) w wr ∧ wr.heap.size = w.heap.size + 1 ∧ wr.heap[w.heap.size]? = some (.cells arr 33 (0, 0))) := ⟨hrow, hchg, hwsz, harr⟩
      clear c0 c1 c2 c3 hc ha hrow hchg hwsz harr
      go_wp2_with (guard_target =~ wpList _ _ _ (⟨none, Op.store 33 _ _, _, _, _, _⟩ :: _) _ _; refine wpList_store_blk rfl 33 _ _ rfl _ _ [_, _, _, _] rfl rfl arr 33 HR.out.2.2.2 (by simp; omega) (by kernel_rfl) rfl ?_)
      obtain ⟨hrow, hchg, hwsz, harr⟩ := HR.out
      go_roundw
      case rel =>
        refine ⟨k + 1, by omega, by go_num, _, heap_setCells _ _ _ _ _ _ harr, by rw [size_lay]; exact hsz, ?_, hchg.into (Chg.setCells (S := (· = w.heap.size)) _ rfl _ _ _) (fun i h => by omega), by rw [size_setCells]; exact hwsz⟩
        exact row4_step hrow (by omega)
      case measure => simp [intOf]; omega
    · go_wp2
      go_ret
      have : k = n := by omega
      subst this
      exact ⟨rfl, hchg, hwsz, arr, harr, hsz, hrow⟩
end Go.Proofs.Qxb6603459aMods
