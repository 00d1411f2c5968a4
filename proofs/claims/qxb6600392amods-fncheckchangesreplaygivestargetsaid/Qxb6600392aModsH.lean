/- checkChanges as the laws call it, and what its answer holds. Own work. -/
import Derived.Test.Qxb6600392aModsG
namespace Go.Proofs.Qxb6600392aMods
open Go.RowKit Go.MapFns
set_option linter.unusedVariables false

/-- behind checkChanges -/
structure Chgd (w w' : World) (f g : Nat → Chk) (n m r B : Nat) (dv av : Value) : Prop where
  chg : Chg (fun _ => False) w w'
  drops : Own w' B dv (dropL f g r n)
  adds : Own w' B av (addL g r m)
theorem Chgd.new {w w' w2 : World} {f g : Nat → Chk} {n m r B : Nat} {dv av : Value} (h : Chgd w w' f g n m r B dv av) (hc : Chg (fun _ => False) w' w2) : Chgd w w2 f g n m r B dv av := ⟨h.chg.trans hc, h.drops.chg hc (by simp), h.adds.chg hc (by simp)⟩

set_option maxHeartbeats 1000000 in
theorem change13 (ao bo : Option Addr) (n c m d : Nat) (f g : Nat → Chk) (w : World) (hn : n ≤ 4096) (hm : m ≤ 4096) (h1 : ChksIn w ao n f) (h2 : ChksIn w bo m g) :
    Calls Trym.prog 13 #[.slice ao n c, .slice bo m d] w fun e w' => ∃ dv av B, e = .returned (.tuple #[dv, av]) ∧ Chgd w w' f g n m (runLen (oldOf f g n) m) B dv av := by
  have H : Hid (Calls _ _ _ _ _) := change34 ao bo n c m d f g w hn hm h1 h2
  clear h1 h2
  go_enter Trym.func13, Trym.ntmps13
  go_wp2_with (go_at_call 34; refine H.out.mono ?_; rintro e w' ⟨dv, av, B, rfl, p1, p2, p3⟩; have HP : Hid (Chgd w w' f g n m (runLen (oldOf f g n) m) B dv av) := ⟨p1, p2, p3⟩; clear p1 p2 p3)
  go_ret2
  exact ⟨_, _, B, rfl, HP.out⟩
end Go.Proofs.Qxb6600392aMods
