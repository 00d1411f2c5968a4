/- What came in for the laws on 'recent'; the size guards. Own work. -/
import Derived.Test.Qxb6603459aModsRows
import Derived.Test.Qxb6603459aModsBase
import Derived.WalkSpells
import Derived.WalkLawsBesides
import Derived.Deep.QuietTactic
import Derived.BigQuiet
namespace Go.Proofs.Qxb6603459aMods
open Go.RowKit Go.MapFns

/-- a slice of one-cell elements reads as f -/
def ElemsIn (w : World) (ao : Option Addr) (n : Nat) (f : Nat → Value) : Prop := ∀ i, i < n → ∃ b off, ao = some ⟨b, off, none⟩ ∧ w.cell? ⟨b, off + i, none⟩ = some (f i)
abbrev byt (f : Nat → Int) : Nat → Value := fun i => .int .u8 (f i)
abbrev i6 (f : Nat → Int) : Nat → Value := fun i => .int .i64 (f i)

/-- the chunks that came in -/
structure CkIn where
  at_ : Nat → Int
  ba : Nat → Option Addr
  bl : Nat → Nat
  bc : Nat → Nat
  bs : Nat → Nat → Int
  cp : Nat → Int

def ChunksIn (w : World) (ao : Option Addr) (n : Nat) (K : CkIn) : Prop := ∀ i, i < n → ∃ b off, ao = some ⟨b, off, none⟩ ∧ w.cell? ⟨b, off + i * 3, none⟩ = some (.int .i64 (K.at_ i)) ∧
  w.cell? ⟨b, off + i * 3 + 1, none⟩ = some (.slice (K.ba i) (K.bl i) (K.bc i)) ∧ w.cell? ⟨b, off + i * 3 + 2, none⟩ = some (.int .i64 (K.cp i)) ∧ ElemsIn w (K.ba i) (K.bl i) (byt (K.bs i)) ∧ K.bl i ≤ maxLen ∧ (K.ba i = none → K.bl i = 0 ∧ K.bc i = 0)

abbrev YesNo (e : Ending) : Prop := e = .returned (.bool true) ∨ e = .returned (.bool false)

set_option maxHeartbeats 1000000 in
theorem zz15 (a0 a3 a4 a6 a7 : Int) (a1 : Int) (a8 : Bool) (eo : Option Addr) (en ec : Nat) (co : Option Addr) (cn cc : Nat) (do_ : Option Addr) (dn dc : Nat) (K : CkIn) (w : World) (hc : ChunksIn w co cn K)
    (he : en ≤ maxLen) (hcn : cn ≤ maxLen) (hd : dn ≤ maxLen) :
    Calls Trym.prog 15 #[.int .i64 a0, .int .u64 a1, .slice eo en ec, .int .i64 a3, .int .i64 a4, .slice co cn cc, .int .i64 a6, .int .i64 a7, .bool a8, .slice do_ dn dc] w fun e w' => YesNo e ∧ w' = w := by
  unfold maxLen at he hcn hd
  by_cases h1 : en ≤ 1048576
  · by_cases h2 : cn ≤ 1048576
    · by_cases h3 : en + cn ≤ 1048576
      · go_enter Trym.func15, Trym.ntmps15
        go_wp2
        go_loop [21, 22] (fun z i => ∃ k zn : Nat, k ≤ cn ∧ zn ≤ 1048576 ∧ i = .int .i64 k ∧ z = .int .i64 zn) (fun _ i => cn - (intOf i).toNat)
        case atStart => exact ⟨0, en + cn, Nat.zero_le _, h3, rfl, by go_num⟩
        case round =>
          obtain ⟨k, zn, hk, hzn, rfl, rfl⟩ := hrel
          by_cases hlt : k < cn
          · obtain ⟨b, off, rfl, c0, c1, c2, _, hbl, _⟩ := hc k hlt
            clear hc c0 c2
            unfold maxLen at hbl
            go_wp2
            · go_ret
              exact ⟨.inr rfl, rfl⟩
            · go_ret
              exact ⟨.inr rfl, rfl⟩
            · go_round
              case rel => exact ⟨k + 1, zn + K.bl k, by omega, by omega, by go_num, by go_num⟩
              case measure => simp [intOf]; omega
          · go_wp2
            all_goals
              go_ret
              exact ⟨by first | exact .inl rfl | exact .inr rfl, rfl⟩
      · go_enter Trym.func15, Trym.ntmps15
        go_wp2
        go_ret
        exact ⟨.inr rfl, rfl⟩
    · by_cases h3 : en + cn ≤ 1048576
      · omega
      · go_enter Trym.func15, Trym.ntmps15
        go_wp2
        go_ret
        exact ⟨.inr rfl, rfl⟩
  · go_enter Trym.func15, Trym.ntmps15
    go_wp2
    go_ret
    exact ⟨.inr rfl, rfl⟩

set_option maxHeartbeats 1000000 in
theorem zz26 (a0 a3 a4 a6 a7 : Int) (a1 : Int) (a8 : Bool) (eo : Option Addr) (en ec : Nat) (co : Option Addr) (cn cc : Nat) (do_ : Option Addr) (dn dc : Nat) (K : CkIn) (w : World) (hc : ChunksIn w co cn K)
    (he : en ≤ maxLen) (hcn : cn ≤ maxLen) (hd : dn ≤ maxLen) :
    Calls Trym.prog 26 #[.int .i64 a0, .int .u64 a1, .slice eo en ec, .int .i64 a3, .int .i64 a4, .slice co cn cc, .int .i64 a6, .int .i64 a7, .bool a8, .slice do_ dn dc] w fun e w' => YesNo e ∧ w' = w := by
  unfold maxLen at he hcn hd
  by_cases h1 : en ≤ 1048576
  · by_cases h2 : cn ≤ 1048576
    · by_cases h3 : en + cn ≤ 1048576
      · go_enter Trym.func26, Trym.ntmps26
        go_wp2
        go_loop [21, 22] (fun z i => ∃ k zn : Nat, k ≤ cn ∧ zn ≤ 1048576 ∧ i = .int .i64 k ∧ z = .int .i64 zn) (fun _ i => cn - (intOf i).toNat)
        case atStart => exact ⟨0, en + cn, Nat.zero_le _, h3, rfl, by go_num⟩
        case round =>
          obtain ⟨k, zn, hk, hzn, rfl, rfl⟩ := hrel
          by_cases hlt : k < cn
          · obtain ⟨b, off, rfl, c0, c1, c2, _, hbl, _⟩ := hc k hlt
            clear hc c0 c2
            unfold maxLen at hbl
            go_wp2
            · go_ret
              exact ⟨.inr rfl, rfl⟩
            · go_ret
              exact ⟨.inr rfl, rfl⟩
            · go_round
              case rel => exact ⟨k + 1, zn + K.bl k, by omega, by omega, by go_num, by go_num⟩
              case measure => simp [intOf]; omega
          · go_wp2
            all_goals
              go_ret
              exact ⟨by first | exact .inl rfl | exact .inr rfl, rfl⟩
      · go_enter Trym.func26, Trym.ntmps26
        go_wp2
        go_ret
        exact ⟨.inr rfl, rfl⟩
    · by_cases h3 : en + cn ≤ 1048576
      · omega
      · go_enter Trym.func26, Trym.ntmps26
        go_wp2
        go_ret
        exact ⟨.inr rfl, rfl⟩
  · go_enter Trym.func26, Trym.ntmps26
    go_wp2
    go_ret
    exact ⟨.inr rfl, rfl⟩

set_option maxHeartbeats 1000000 in
theorem zz29 (a0 a3 a4 a6 a7 : Int) (a1 : Int) (a8 : Bool) (eo : Option Addr) (en ec : Nat) (co : Option Addr) (cn cc : Nat) (K : CkIn) (w : World) (hc : ChunksIn w co cn K)
    (he : en ≤ maxLen) (hcn : cn ≤ maxLen) :
    Calls Trym.prog 29 #[.int .i64 a0, .int .u64 a1, .slice eo en ec, .int .i64 a3, .int .i64 a4, .slice co cn cc, .int .i64 a6, .int .i64 a7, .bool a8] w fun e w' => YesNo e ∧ w' = w := by
  unfold maxLen at he hcn
  by_cases h1 : en ≤ 1048576
  · by_cases h2 : cn ≤ 1048576
    · by_cases h3 : en + cn ≤ 1048576
      · go_enter Trym.func29, Trym.ntmps29
        go_wp2
        go_loop [19, 20] (fun z i => ∃ k zn : Nat, k ≤ cn ∧ zn ≤ 1048576 ∧ i = .int .i64 k ∧ z = .int .i64 zn) (fun _ i => cn - (intOf i).toNat)
        case atStart => exact ⟨0, en + cn, Nat.zero_le _, h3, rfl, by go_num⟩
        case round =>
          obtain ⟨k, zn, hk, hzn, rfl, rfl⟩ := hrel
          by_cases hlt : k < cn
          · obtain ⟨b, off, rfl, c0, c1, c2, _, hbl, _⟩ := hc k hlt
            clear hc c0 c2
            unfold maxLen at hbl
            go_wp2
            · go_ret
              exact ⟨.inr rfl, rfl⟩
            · go_ret
              exact ⟨.inr rfl, rfl⟩
            · go_round
              case rel => exact ⟨k + 1, zn + K.bl k, by omega, by omega, by go_num, by go_num⟩
              case measure => simp [intOf]; omega
          · go_wp2
            all_goals
              go_ret
              exact ⟨by first | exact .inl rfl | exact .inr rfl, rfl⟩
      · go_enter Trym.func29, Trym.ntmps29
        go_wp2
        go_ret
        exact ⟨.inr rfl, rfl⟩
    · by_cases h3 : en + cn ≤ 1048576
      · omega
      · go_enter Trym.func29, Trym.ntmps29
        go_wp2
        go_ret
        exact ⟨.inr rfl, rfl⟩
  · go_enter Trym.func29, Trym.ntmps29
    go_wp2
    go_ret
    exact ⟨.inr rfl, rfl⟩

set_option maxHeartbeats 1000000 in
theorem zz33 (a0 a3 a4 a6 a7 : Int) (a1 : Int) (a8 : Bool) (eo : Option Addr) (en ec : Nat) (co : Option Addr) (cn cc : Nat) (a9 : Int) (K : CkIn) (w : World) (hc : ChunksIn w co cn K)
    (he : en ≤ maxLen) (hcn : cn ≤ maxLen) :
    Calls Trym.prog 33 #[.int .i64 a0, .int .u64 a1, .slice eo en ec, .int .i64 a3, .int .i64 a4, .slice co cn cc, .int .i64 a6, .int .i64 a7, .bool a8, .int .i64 a9] w fun e w' => YesNo e ∧ w' = w := by
  unfold maxLen at he hcn
  by_cases h1 : en ≤ 1048576
  · by_cases h2 : cn ≤ 1048576
    · by_cases h3 : en + cn ≤ 1048576
      · go_enter Trym.func33, Trym.ntmps33
        go_wp2
        go_loop [21, 22] (fun z i => ∃ k zn : Nat, k ≤ cn ∧ zn ≤ 1048576 ∧ i = .int .i64 k ∧ z = .int .i64 zn) (fun _ i => cn - (intOf i).toNat)
        case atStart => exact ⟨0, en + cn, Nat.zero_le _, h3, rfl, by go_num⟩
        case round =>
          obtain ⟨k, zn, hk, hzn, rfl, rfl⟩ := hrel
          by_cases hlt : k < cn
          · obtain ⟨b, off, rfl, c0, c1, c2, _, hbl, _⟩ := hc k hlt
            clear hc c0 c2
            unfold maxLen at hbl
            go_wp2
            · go_ret
              exact ⟨.inr rfl, rfl⟩
            · go_ret
              exact ⟨.inr rfl, rfl⟩
            · go_round
              case rel => exact ⟨k + 1, zn + K.bl k, by omega, by omega, by go_num, by go_num⟩
              case measure => simp [intOf]; omega
          · go_wp2
            all_goals
              go_ret
              exact ⟨by first | exact .inl rfl | exact .inr rfl, rfl⟩
      · go_enter Trym.func33, Trym.ntmps33
        go_wp2
        go_ret
        exact ⟨.inr rfl, rfl⟩
    · by_cases h3 : en + cn ≤ 1048576
      · omega
      · go_enter Trym.func33, Trym.ntmps33
        go_wp2
        go_ret
        exact ⟨.inr rfl, rfl⟩
  · go_enter Trym.func33, Trym.ntmps33
    go_wp2
    go_ret
    exact ⟨.inr rfl, rfl⟩

structure Sized (en cn dn : Nat) (K : CkIn) : Prop where
  e : en ≤ 65536
  c : cn ≤ 4096
  d : dn ≤ 1048576
  k : ∀ i, i < cn → K.bl i ≤ 65536 ∧ (K.bl i : Int) ≤ K.cp i ∧ K.cp i ≤ 65536

set_option maxHeartbeats 1000000 in
theorem sized16 (eo : Option Addr) (en ec : Nat) (co : Option Addr) (cn cc : Nat) (do_ : Option Addr) (dn dc : Nat) (K : CkIn) (w : World) (hc : ChunksIn w co cn K)
    (he : en ≤ maxLen) (hcn : cn ≤ maxLen) (hd : dn ≤ maxLen) :
    Calls Trym.prog 16 #[.slice eo en ec, .slice co cn cc, .slice do_ dn dc] w fun e w' => ((e = .returned (.bool true) ∧ Sized en cn dn K) ∨ e = .returned (.bool false)) ∧ w' = w := by
  unfold maxLen at he hcn hd
  by_cases h1 : en ≤ 65536
  · by_cases h2 : cn ≤ 4096
    · by_cases h3 : dn ≤ 1048576
      · go_enter Trym.func16, Trym.ntmps16
        go_wp2
        go_loop [7, 8] (fun z i => ∃ k zn : Nat, k ≤ cn ∧ zn ≤ 3000000 ∧ i = .int .i64 k ∧ z = .int .i64 zn ∧ ∀ i, i < k → K.bl i ≤ 65536 ∧ (K.bl i : Int) ≤ K.cp i ∧ K.cp i ≤ 65536) (fun _ i => cn - (intOf i).toNat)
        case atStart => exact ⟨0, 8 * en + 40 * cn + dn, Nat.zero_le _, by omega, rfl, by go_num, fun i h => by omega⟩
        case round =>
          obtain ⟨k, zn, hk, hzn, rfl, rfl, hall⟩ := hrel
          have HA : Hid (∀ i, i < k → K.bl i ≤ 65536 ∧ (K.bl i : Int) ≤ K.cp i ∧ K.cp i ≤ 65536) := hall
          clear hall
          by_cases hlt : k < cn
          · obtain ⟨b, off, rfl, c0, c1, c2, _, hbl, _⟩ := hc k hlt
            clear hc c0
            unfold maxLen at hbl
            by_cases g1 : K.bl k ≤ 65536
            · by_cases g2 : (K.bl k : Int) ≤ K.cp k
              · by_cases g3 : K.cp k ≤ 65536
                · go_wp2
                  · go_ret
                    exact ⟨.inr rfl, rfl⟩
                  · go_round
                    case rel => exact ⟨k + 1, zn + (K.bl k + (K.cp k).toNat), by omega, by omega, by go_num, by go_num, fun i hi => by
                      by_cases e : i = k
                      · subst e; exact ⟨g1, g2, g3⟩
                      · exact HA.out i (by omega)⟩
                    case measure => simp [intOf]; omega
                · go_wp2
                  go_ret
                  exact ⟨.inr rfl, rfl⟩
              · go_wp2
                go_ret
                exact ⟨.inr rfl, rfl⟩
            · go_wp2
              go_ret
              exact ⟨.inr rfl, rfl⟩
          · have hkc : k = cn := by omega
            by_cases hz : (zn : Int) ≤ 1048576
            · have hd : decide ((zn : Int) ≤ 1048576) = true := by simpa using hz
              go_wp2
              go_ret
              exact ⟨.inl ⟨by simp, h1, h2, h3, hkc ▸ HA.out⟩, rfl⟩
            · have hd : decide ((zn : Int) ≤ 1048576) = false := by simpa using hz
              go_wp2
              go_ret
              exact ⟨.inr (by simp), rfl⟩
      · go_enter Trym.func16, Trym.ntmps16
        go_wp2
        go_ret
        exact ⟨.inr rfl, rfl⟩
    · go_enter Trym.func16, Trym.ntmps16
      go_wp2
      go_ret
      exact ⟨.inr rfl, rfl⟩
  · go_enter Trym.func16, Trym.ntmps16
    go_wp2
    go_ret
    exact ⟨.inr rfl, rfl⟩
end Go.Proofs.Qxb6603459aMods
