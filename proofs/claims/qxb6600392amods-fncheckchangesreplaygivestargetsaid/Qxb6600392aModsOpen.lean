/- What came in, opened. Own work. -/
import Derived.Test.Qxb6600392aModsB
import Derived.ProofKit
import Derived.OpenShut
import Derived.ShutString
import Derived.ChangeOld
import Derived.SliceStrings
namespace Go.Proofs.Qxb6600392aMods
open Go.RowKit Go.MapFns
open Go.ChangeShapes Go.WideShapes Go.ChangeAt

section
variable {H : Type} {enc : TypeId × Value → H} {W : World} {base : Nat} {held : Bool}

theorem spot_none {x : Addr} {v : Value} (h : W.cell? (x.add 0) = some v) : ∃ b off, x = ⟨b, off, none⟩ := by
  obtain ⟨b, off, spot⟩ := x
  have hspot : spot = none := by simpa [Addr.add] using World.cell?_spot h
  exact ⟨b, off, by rw [hspot]⟩

theorem strs_of {fuel : Nat} {a0 : Option Addr} {len cap : Nat} {x : DataW H × List MemPlace}
    (hf : DataW.trod enc Trym.prog W base (fun _ => true) held fuel 22 [.slice a0 len cap] = some x) : ∃ f : Nat → ByteArray, ElemsIn W a0 len (str f) ∧ (a0 = none → len = 0) ∧ len ≤ maxLen := by
  rcases open_strings Trym.underlying22 Trym.underlying9 (by kernel_rfl) hf with ⟨hcs, _⟩ | ⟨y, l, c, zs, hcs, _, hl, hm, hz, _, hcell, hwz⟩
  · simp at hcs
    obtain ⟨rfl, rfl, rfl⟩ := hcs
    exact ⟨fun _ => ByteArray.empty, fun i h => by omega, fun _ => rfl, Nat.zero_le _⟩
  · simp at hcs
    obtain ⟨rfl, rfl, rfl⟩ := hcs
    have hz' : zs.length = cap := by simpa using hz
    refine ⟨fun i => zs.getD i ByteArray.empty, ?_, (fun h => by cases h), Nat.le_trans hl hm⟩
    intro i hi
    have h0 := hcell 0 (by omega)
    obtain ⟨b, off, rfl⟩ := spot_none h0
    have hi' := hcell i (by omega)
    rw [Addr.add_mid] at hi'
    exact ⟨b, off, rfl, hi'⟩
end
end Go.Proofs.Qxb6600392aMods
