import Derived.Test.Qxb6603459aModsRecA
namespace Go.Proofs.Qxb6603459aMods
open Go.RowKit Go.MapFns

theorem drewN_add (w : World) (a b : Nat) : (w.drewN a).drewN b = w.drewN (a + b) := by simp [World.drewN, Nat.add_assoc]

def wsum (f : Nat → Int) : Nat → Int
  | 0 => 0
  | k + 1 => wrap64 (wsum f k + f k)

structure Wf (cn : Nat) (K : CkIn) (chunked next : Int) (fresh : Bool) : Prop where
  link : ∀ k, k + 1 < cn → K.at_ (k + 1) = wrap64 (K.at_ k + K.cp k)
  sum : wsum K.cp cn = chunked
  last : ∀ k, k + 1 = cn → fresh = false → next = wrap64 (K.at_ k + K.bl k)

set_option maxHeartbeats 2000000 in
theorem wf27 (co : Option Addr) (cn cc : Nat) (K : CkIn) (w : World) (hc : ChunksIn w co cn K) (hn : cn ≤ 4096) (hbl : ∀ i, i < cn → K.bl i ≤ 65536) (chunked next : Int) (fresh : Bool) :
    Calls Trym.prog 27 #[.slice co cn cc, .int .i64 chunked, .int .i64 next, .bool fresh] w fun e w' => ((e = .returned (.bool true) ∧ Wf cn K chunked next fresh) ∨ e = .returned (.bool false)) ∧ ∃ n, w' = w.drewN n := by
  go_enter Trym.func27, Trym.ntmps27
  go_wp2
  go_loopw [9, 10] (fun z i wr => ∃ k : Nat, k ≤ cn ∧ i = .int .i64 k ∧ z = .int .i64 (wsum K.cp k) ∧ (∀ j, j + 1 < k → K.at_ (j + 1) = wrap64 (K.at_ j + K.cp j)) ∧ ∃ n, wr = w.drewN n) (fun _ i _ => cn - (intOf i).toNat)
  case atStart => exact ⟨0, Nat.zero_le _, rfl, rfl, (fun j h => by omega), 0, rfl⟩
  case round =>
    obtain ⟨k, hk, rfl, rfl, hl, n0, rfl⟩ := hrel
    have HL : Hid (∀ j, j + 1 < k → K.at_ (j + 1) = wrap64 (K.at_ j + K.cp j)) := hl
    clear hl
    by_cases hlt : k < cn
    · obtain ⟨b, off, rfl, c0, c1, c2, _, _, _⟩ := hc k hlt
      cases k with
      | zero =>
        have z0 : (0 : Int) < (cn : Int) := by omega
        simp only [Nat.zero_mul, Nat.add_zero] at c0 c1 c2
        go_wp2_with fail
        go_quiet (fail)
        go_wp2
        go_roundw
        case rel => exact ⟨1, by omega, by simp, by simp [wsum], (fun j h => by omega), n0 + nq, by first | rfl | exact drewN_add w n0 nq⟩
        case measure => simp [intOf]; omega
      | succ j =>
        obtain ⟨b', off', e', d0, d1, d2, _, _, _⟩ := hc j (by omega)
        simp at e'
        obtain ⟨rfl, rfl⟩ := e'
        have z0 : (0 : Int) < (j : Int) + 1 := by omega
        have z1 : (j : Int) + 1 < (cn : Int) := by omega
        have z2 : (j : Int) < (cn : Int) := by omega
        have z3 : decide ((0 : Int) < (j : Int) + 1) = true := decide_eq_true z0
        by_cases he : K.at_ (j + 1) = wrap64 (K.at_ j + K.cp j)
        · have hb : (K.at_ (j + 1) != wrap64 (K.at_ j + K.cp j)) = false := by simp [he]
          have HE : Hid (K.at_ (j + 1) = wrap64 (K.at_ j + K.cp j)) := he
          clear he hc
          go_wp2_with fail
          go_quiet (fail)
          go_wp2
          go_roundw
          case rel => exact ⟨j + 1 + 1, by omega, by go_num, by simp [wsum], (fun i hi => by
            by_cases e : i = j
            · subst e; exact HE.out
            · exact HL.out i (by omega)), n0 + nq, by first | rfl | exact drewN_add w n0 nq⟩
          case measure => simp [intOf]; omega
        · have hb : (K.at_ (j + 1) != wrap64 (K.at_ j + K.cp j)) = true := by simp [he]
          clear he hc
          go_wp2_with fail
          go_quiet (fail)
          go_wp2
          go_ret
          exact ⟨.inr rfl, n0 + nq, by first | rfl | exact drewN_add w n0 nq⟩
    · have hkc : k = cn := by omega
      subst hkc
      by_cases hs : wsum K.cp k = chunked
      · have hb : (wsum K.cp k != chunked) = false := by simp [hs]
        have HS : Hid (wsum K.cp k = chunked) := hs
        clear hs
        cases k with
        | zero =>
          have hb0 : ((0 : Int) != chunked) = false := hb
          go_wp2_with fail
          go_quiet (fail)
          go_wp2
          go_ret
          exact ⟨.inl ⟨rfl, (fun j h => by omega), HS.out, (fun j h => by omega)⟩, n0 + nq, by first | rfl | exact drewN_add w n0 nq⟩
        | succ j =>
          obtain ⟨b, off, rfl, d0, d1, d2, _, _, _⟩ := hc j (by omega)
          have hb5 := hbl j (by omega)
          have z0 : (0 : Int) < (j : Int) + 1 := by omega
          have z2 : (j : Int) < (j : Int) + 1 := by omega
          have z3 : decide ((0 : Int) < (j : Int) + 1) = true := decide_eq_true z0
          cases fresh with
          | true =>
            clear hc hbl
            go_wp2_with fail
            go_quiet (fail)
            go_wp2
            go_ret
            exact ⟨.inl ⟨rfl, HL.out, HS.out, (fun i h1 h2 => by cases h2)⟩, n0 + nq, by first | rfl | exact drewN_add w n0 nq⟩
          | false =>
            by_cases he : next = wrap64 (K.at_ j + K.bl j)
            · have hb2 : (next != wrap64 (K.at_ j + K.bl j)) = false := by simp [he]
              have HE : Hid (next = wrap64 (K.at_ j + K.bl j)) := he
              clear he hc hbl
              go_wp2_with fail
              go_quiet (fail)
              go_wp2
              go_ret
              exact ⟨.inl ⟨rfl, HL.out, HS.out, (fun i h1 h2 => by obtain rfl : i = j := by omega
                                                                   exact HE.out)⟩, n0 + nq, by first | rfl | exact drewN_add w n0 nq⟩
            · have hb2 : (next != wrap64 (K.at_ j + K.bl j)) = true := by simp [he]
              clear he hc hbl
              go_wp2_with fail
              go_quiet (fail)
              go_wp2
              go_ret
              exact ⟨.inr rfl, n0 + nq, by first | rfl | exact drewN_add w n0 nq⟩
      · have hb : (wsum K.cp k != chunked) = true := by simp [hs]
        clear hs hc
        go_wp2
        go_ret
        exact ⟨.inr rfl, n0, rfl⟩
end Go.Proofs.Qxb6603459aMods
