/- The keys: a check is two strings. Own work. -/
import Derived.Test.Qxb6600392aModsRows
import Derived.Test.Qxb6600392aModsBase
import Derived.WalkSpells
import Derived.WalkLawsBesides
import Derived.Deep.QuietTactic
import Derived.BigQuiet
namespace Go.Proofs.Qxb6600392aMods
open Go.RowKit Go.MapFns
set_option linter.unusedVariables false

abbrev Chk := ByteArray × ByteArray
def eqC (a b : Chk) : Bool := a.1 == b.1 && a.2 == b.2
def encC (k : Chk) : Value := .agg #[.string k.1, .string k.2]
abbrev encI (s : Int) : Value := .int .i64 s
abbrev eqI (a b : Int) : Bool := a == b
theorem bytes_eq {a b : ByteArray} : a.toList = b.toList ↔ a = b := by
  constructor
  · intro h
    rw [ByteArray.toList_eq, ByteArray.toList_eq] at h
    exact WideShapes.bytes_inj h
  · rintro rfl; rfl
theorem beq_bytes (a b : ByteArray) : (a == b) = decide (a = b) := by
  rw [beq_toListBytes]
  by_cases h : a = b
  · simp [h]
  · rw [decide_eq_false h]
    have : ¬ a.toList = b.toList := fun e => h (bytes_eq.1 e)
    simpa using this
theorem eqC_iff (a b : Chk) : eqC a b = true ↔ a = b := by
  obtain ⟨a1, a2⟩ := a
  obtain ⟨b1, b2⟩ := b
  simp [eqC, beq_bytes]
theorem equal31 (w : World) (a b : Chk) : (Op.equal 31 (encC a) (encC b)).run Trym.prog w = .ok (eqC a b) w := by
  unfold Op.equal Op.maxDepth encC
  rw [run_equalIn_agg w 9999 31 _ _ (by kernel_rfl) (by kernel_rfl)]
  simp [go_sem]
  by_cases h1 : a.1 = b.1 <;> by_cases h2 : a.2 = b.2 <;> simp [eqC, beq_bytes, bytes_eq, h1, h2]
theorem check9 (w : World) (em : Bool) (n : Nat) (a : ByteArray) : (Instr.checkKey em (n + 1) 9 (.string a)).run Trym.prog w = .ok () w := by
  rw [Instr.checkKey]
  simp [run_underlying Trym.underlying9]
theorem check31 (w : World) (em : Bool) (a : Chk) : (Instr.checkKey em 10000 31 (encC a)).run Trym.prog w = .ok () w := by
  show (Instr.checkKey em (9998 + 1 + 1) 31 (encC a)).run Trym.prog w = _
  rw [Instr.checkKey]
  simp [encC, run_underlying Trym.underlying31, part, check9]
theorem key31 : KeyTy Trym.prog 31 Chk eqC encC where
  eqk_iff := eqC_iff
  check := check31
  same := fun k => by
    show Instr.sameBits (9998 + 1 + 1) (encC k) (encC k) = true
    simp [encC, Instr.sameBits, beq_bytes]
  find := find_of_equal Trym.underlying31 (fun a b => rfl) equal31
theorem key3 : KeyTy Trym.prog 3 Int eqI encI := int_key Trym.underlying3
end Go.Proofs.Qxb6600392aMods
