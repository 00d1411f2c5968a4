/- What came in, opened. Own work. -/
import Derived.Test.Qxb6603459aModsRecA
import Derived.ProofKit
import Derived.OpenShut
import Derived.ShutString
import Derived.ChangeOld
import Derived.Deep.Slices
namespace Go.Proofs.Qxb6603459aMods
open Go.RowKit Go.MapFns
open Go.ChangeShapes Go.WideShapes Go.ChangeAt

section
variable {H : Type} {enc : TypeId × Value → H} {W : World} {base : Nat} {held : Bool}

theorem spot_none {x : Addr} {v : Value} (h : W.cell? (x.add 0) = some v) : ∃ b off, x = ⟨b, off, none⟩ := by
  obtain ⟨b, off, spot⟩ := x
  have hspot : spot = none := by simpa [Addr.add] using World.cell?_spot h
  exact ⟨b, off, by rw [hspot]⟩

theorem elems_of {T E : TypeId} {k : IntKind} {fuel : Nat} {a0 : Option Addr} {len cap : Nat} {x : DataW H × List MemPlace} (hT : Trym.prog.underlying T = some (.slice E)) (hE : Trym.prog.underlying E = some (.int k)) (hc : Trym.prog.cellsOf E = 1)
    (hf : DataW.trod enc Trym.prog W base (fun _ => true) held fuel T [.slice a0 len cap] = some x) : ∃ f : Nat → Int, ElemsIn W a0 len (fun i => .int k (f i)) ∧ (a0 = none → len = 0 ∧ cap = 0) ∧ len ≤ maxLen := by
  rcases open_ints hT hE hc hf with ⟨hcs, _⟩ | ⟨y, l, c, zs, hcs, _, hl, hm, hz, _, hcell, hwz⟩
  · simp at hcs
    obtain ⟨rfl, rfl, rfl⟩ := hcs
    exact ⟨fun _ => 0, fun i h => by omega, fun _ => ⟨rfl, rfl⟩, Nat.zero_le _⟩
  · simp at hcs
    obtain ⟨rfl, rfl, rfl⟩ := hcs
    have hz' : zs.length = cap := by simpa using hz
    refine ⟨fun i => zs.getD i 0, ?_, (fun h => by cases h), Nat.le_trans hl hm⟩
    intro i hi
    have h0 := hcell 0 (by omega)
    obtain ⟨b, off, rfl⟩ := spot_none h0
    have hi' := hcell i (by omega)
    rw [Addr.add_mid] at hi'
    exact ⟨b, off, rfl, hi'⟩

/-- one chunk that came in -/
structure OneCk where
  at_ : Int
  ba : Option Addr
  bl : Nat
  bc : Nat
  bs : Nat → Int
  cp : Int

theorem chunk_of {fuel : Nat} {cs : List Value} {x : DataW H × List MemPlace} (h : DataW.trod enc Trym.prog W base (fun _ => true) held fuel 51 cs = some x) :
    ∃ q : OneCk, cs = [.int .i64 q.at_, .slice q.ba q.bl q.bc, .int .i64 q.cp] ∧ ElemsIn W q.ba q.bl (byt q.bs) ∧ q.bl ≤ maxLen ∧ (q.ba = none → q.bl = 0 ∧ q.bc = 0) := by
  obtain ⟨xs, k, _, _, hl, hxl, hf⟩ := DataW.trod_struct Trym.underlying51 h
  have c51 : Trym.prog.cellsOf 51 = 3 := by kernel_rfl
  have c2 : Trym.prog.cellsOf 2 = 1 := by kernel_rfl
  have c3 : Trym.prog.cellsOf 3 = 1 := by kernel_rfl
  have c37 : Trym.prog.cellsOf 37 = 1 := by kernel_rfl
  rw [c51] at hl
  match cs, hl with
  | [v0, v1, v2], _ =>
    have hxl3 : xs.length = 3 := hxl
    match xs, hxl3 with
    | [y0, y1, y2], _ =>
      have g0 := hf 0 _ rfl
      have g1 := hf 1 _ rfl
      have g2 := hf 2 _ rfl
      simp [c2, c3, c37] at g0 g1 g2
      obtain ⟨a0, e0, _, _⟩ := DataW.trod_int Trym.underlying2 g0
      obtain ⟨a2, e2, _, _⟩ := DataW.trod_int Trym.underlying3 g2
      simp at e0 e2
      obtain ⟨ao, ln, cp, rfl⟩ : ∃ ao ln cp, v1 = .slice ao ln cp := by
        rcases open_ints Trym.underlying37 Trym.underlying5 (by kernel_rfl) g1 with ⟨hcs, _⟩ | ⟨y, l, c, zs, hcs, _⟩
        · simp at hcs; exact ⟨_, _, _, hcs⟩
        · simp at hcs; exact ⟨_, _, _, hcs⟩
      obtain ⟨f, f1, f2, f3⟩ := elems_of Trym.underlying37 Trym.underlying5 (by kernel_rfl) g1
      exact ⟨⟨a0, ao, ln, cp, f, a2⟩, by simp [e0, e2], f1, f3, f2⟩

theorem chunks_of {fuel : Nat} {a0 : Option Addr} {len cap : Nat} {x : DataW H × List MemPlace} (hf : DataW.trod enc Trym.prog W base (fun _ => true) held fuel 36 [.slice a0 len cap] = some x) :
    ∃ K : CkIn, ChunksIn W a0 len K ∧ (a0 = none → len = 0 ∧ cap = 0) ∧ len ≤ maxLen := by
  rcases Deep.open_slice Trym.underlying36 hf with ⟨hcs, _⟩ | ⟨y, l, c, m, n, D, Pl, hcs, _, hl, hm, hmm, _, hx⟩
  · simp at hcs
    obtain ⟨rfl, rfl, rfl⟩ := hcs
    exact ⟨⟨fun _ => 0, fun _ => none, fun _ => 0, fun _ => 0, fun _ _ => 0, fun _ => 0⟩, fun i h => by omega, fun _ => ⟨rfl, rfl⟩, Nat.zero_le _⟩
  · simp at hcs
    obtain ⟨rfl, rfl, rfl⟩ := hcs
    have c51 : Trym.prog.cellsOf 51 = 3 := by kernel_rfl
    have hlm : len ≤ m := by rw [hmm]; split <;> omega
    have each : ∀ i, i < m → ∃ q : Option OneCk, ∃ r : OneCk, q = some r ∧ W.cells? base (y.add (i * 3)) 3 = some [.int .i64 r.at_, .slice r.ba r.bl r.bc, .int .i64 r.cp] ∧ ElemsIn W r.ba r.bl (byt r.bs) ∧ r.bl ≤ maxLen ∧ (r.ba = none → r.bl = 0 ∧ r.bc = 0) := by
      intro i hi
      obtain ⟨cs', h1, h2⟩ := hx i hi
      rw [c51] at h1
      obtain ⟨r, e, q1, q2, q3⟩ := chunk_of h2
      exact ⟨some r, r, rfl, by rw [← e]; exact h1, q1, q2, q3⟩
    obtain ⟨Q, hQ⟩ := Deep.choose_lt (α := Option OneCk) each
    have dflt : OneCk := ⟨0, none, 0, 0, fun _ => 0, 0⟩
    refine ⟨⟨fun i => ((Q i).getD dflt).at_, fun i => ((Q i).getD dflt).ba, fun i => ((Q i).getD dflt).bl, fun i => ((Q i).getD dflt).bc, fun i => ((Q i).getD dflt).bs, fun i => ((Q i).getD dflt).cp⟩, ?_, (fun h => by cases h), Nat.le_trans hl hm⟩
    intro i hi
    obtain ⟨r0, _, h0, _⟩ := hQ 0 (by omega)
    obtain ⟨_, _, hc0⟩ := World.cells?_some h0
    have h00 := hc0 0 (by omega)
    rw [Nat.zero_mul, Deep.add_add, Nat.add_zero] at h00
    obtain ⟨b, off, rfl⟩ := spot_none h00
    obtain ⟨r, er, hr1, hr2, hr3, hr4⟩ := hQ i (by omega)
    obtain ⟨_, _, hc⟩ := World.cells?_some hr1
    have e0 := hc 0 (by omega)
    have e1 := hc 1 (by omega)
    have e2 := hc 2 (by omega)
    rw [Deep.add_add] at e0 e1 e2
    simp only [Addr.add_mid] at e0 e1 e2
    simp only [er, Option.getD_some]
    exact ⟨b, off, rfl, by simpa using e0, by simpa [Nat.add_assoc] using e1, by simpa [Nat.add_assoc] using e2, hr2, hr3, hr4⟩
end
end Go.Proofs.Qxb6603459aMods
