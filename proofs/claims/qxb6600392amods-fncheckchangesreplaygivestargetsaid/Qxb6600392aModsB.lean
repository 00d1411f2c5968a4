/- Readers: the size guards. Own work. -/
import Derived.Test.Qxb6600392aModsA
namespace Go.Proofs.Qxb6600392aMods
open Go.RowKit Go.MapFns
set_option linter.unusedVariables false

/-- a slice of one-cell elements reads as f -/
def ElemsIn (w : World) (ao : Option Addr) (n : Nat) (f : Nat → Value) : Prop := ∀ i, i < n → ∃ b off, ao = some ⟨b, off, none⟩ ∧ w.cell? ⟨b, off + i, none⟩ = some (f i)
theorem ElemsIn.chg {w w' : World} {ao : Option Addr} {n : Nat} {f : Nat → Value} {S : Nat → Prop} (h : ElemsIn w ao n f) (hc : Chg S w w') (hs : ∀ b off, ao = some ⟨b, off, none⟩ → ¬ S b) : ElemsIn w' ao n f := by
  intro i hi
  obtain ⟨b, off, e, hcell⟩ := h i hi
  exact ⟨b, off, e, hc.cell hcell (hs b off e)⟩
abbrev str (f : Nat → ByteArray) : Nat → Value := fun i => .string (f i)
abbrev YesNo (e : Ending) : Prop := e = .returned (.bool true) ∨ e = .returned (.bool false)

set_option maxHeartbeats 2000000 in
theorem zz9 (a1 a2 a3 a4 : Option Addr) (n1 n2 n3 n4 c1 c2 c3 c4 : Nat) (f1 f2 f3 f4 : Nat → ByteArray) (w : World) (e1 : ElemsIn w a1 n1 (str f1)) (e2 : ElemsIn w a2 n2 (str f2)) (e3 : ElemsIn w a3 n3 (str f3)) (e4 : ElemsIn w a4 n4 (str f4))
    (m1 : n1 ≤ maxLen) (m2 : n2 ≤ maxLen) (m3 : n3 ≤ maxLen) (m4 : n4 ≤ maxLen) :
    Calls Trym.prog 9 #[.slice a1 n1 c1, .slice a2 n2 c2, .slice a3 n3 c3, .slice a4 n4 c4] w fun e w' => YesNo e ∧ w' = w := by
  unfold maxLen at m1 m2 m3 m4
  go_enter Trym.func9, Trym.ntmps9
  by_cases h1 : n1 ≤ 1048576
  · go_wp2
    go_loop [9, 10] (fun z i => ∃ k zn : Nat, k ≤ n1 ∧ zn ≤ 1048576 ∧ i = .int .i64 k ∧ z = .int .i64 zn) (fun _ i => n1 - (intOf i).toNat)
    case atStart => exact ⟨0, n1, Nat.zero_le _, h1, rfl, by go_num⟩
    case round =>
      obtain ⟨k1, z1, hk1, hz1, rfl, rfl⟩ := hrel
      by_cases hlt : k1 < n1
      · obtain ⟨b, off, rfl, c0⟩ := e1 k1 hlt
        go_wp2
        · go_ret
          exact ⟨.inr rfl, rfl⟩
        · go_ret
          exact ⟨.inr rfl, rfl⟩
        · go_round
          case rel => exact ⟨k1 + 1, z1 + (f1 k1).size, by omega, by omega, by go_num, by go_num⟩
          case measure => simp [intOf]; omega
      · by_cases h2 : n2 ≤ 1048576
        · by_cases h2b : z1 + n2 ≤ 1048576
          · go_wp2
            go_loop [9, 11] (fun z i => ∃ k zn : Nat, k ≤ n2 ∧ zn ≤ 1048576 ∧ i = .int .i64 k ∧ z = .int .i64 zn) (fun _ i => n2 - (intOf i).toNat)
            case atStart => exact ⟨0, z1 + n2, Nat.zero_le _, h2b, rfl, by go_num⟩
            case round =>
              obtain ⟨k2, z2, hk2, hz2, rfl, rfl⟩ := hrel
              by_cases hlt : k2 < n2
              · obtain ⟨b, off, rfl, c0⟩ := e2 k2 hlt
                go_wp2
                · go_ret
                  exact ⟨.inr rfl, rfl⟩
                · go_ret
                  exact ⟨.inr rfl, rfl⟩
                · go_round
                  case rel => exact ⟨k2 + 1, z2 + (f2 k2).size, by omega, by omega, by go_num, by go_num⟩
                  case measure => simp [intOf]; omega
              · by_cases h3 : n3 ≤ 1048576
                · by_cases h3b : z2 + n3 ≤ 1048576
                  · go_wp2
                    go_loop [9, 12] (fun z i => ∃ k zn : Nat, k ≤ n3 ∧ zn ≤ 1048576 ∧ i = .int .i64 k ∧ z = .int .i64 zn) (fun _ i => n3 - (intOf i).toNat)
                    case atStart => exact ⟨0, z2 + n3, Nat.zero_le _, h3b, rfl, by go_num⟩
                    case round =>
                      obtain ⟨k3, z3, hk3, hz3, rfl, rfl⟩ := hrel
                      by_cases hlt : k3 < n3
                      · obtain ⟨b, off, rfl, c0⟩ := e3 k3 hlt
                        go_wp2
                        · go_ret
                          exact ⟨.inr rfl, rfl⟩
                        · go_ret
                          exact ⟨.inr rfl, rfl⟩
                        · go_round
                          case rel => exact ⟨k3 + 1, z3 + (f3 k3).size, by omega, by omega, by go_num, by go_num⟩
                          case measure => simp [intOf]; omega
                      · by_cases h4 : n4 ≤ 1048576
                        · by_cases h4b : z3 + n4 ≤ 1048576
                          · go_wp2
                            go_loop [9, 13] (fun z i => ∃ k zn : Nat, k ≤ n4 ∧ zn ≤ 1048576 ∧ i = .int .i64 k ∧ z = .int .i64 zn) (fun _ i => n4 - (intOf i).toNat)
                            case atStart => exact ⟨0, z3 + n4, Nat.zero_le _, h4b, rfl, by go_num⟩
                            case round =>
                              obtain ⟨k4, z4, hk4, hz4, rfl, rfl⟩ := hrel
                              by_cases hlt : k4 < n4
                              · obtain ⟨b, off, rfl, c0⟩ := e4 k4 hlt
                                go_wp2
                                · go_ret
                                  exact ⟨.inr rfl, rfl⟩
                                · go_ret
                                  exact ⟨.inr rfl, rfl⟩
                                · go_round
                                  case rel => exact ⟨k4 + 1, z4 + (f4 k4).size, by omega, by omega, by go_num, by go_num⟩
                                  case measure => simp [intOf]; omega
                              · go_wp2
                                go_ret
                                exact ⟨.inl rfl, rfl⟩
                          · go_wp2
                            go_ret
                            exact ⟨.inr rfl, rfl⟩
                        · go_wp2
                          go_ret
                          exact ⟨.inr rfl, rfl⟩
                  · go_wp2
                    go_ret
                    exact ⟨.inr rfl, rfl⟩
                · go_wp2
                  go_ret
                  exact ⟨.inr rfl, rfl⟩
          · go_wp2
            go_ret
            exact ⟨.inr rfl, rfl⟩
        · go_wp2
          go_ret
          exact ⟨.inr rfl, rfl⟩
  · go_wp2
    go_ret
    exact ⟨.inr rfl, rfl⟩

set_option maxHeartbeats 2000000 in
theorem zz15 (a1 a2 a3 a4 : Option Addr) (n1 n2 n3 n4 c1 c2 c3 c4 : Nat) (f1 f2 f3 f4 : Nat → ByteArray) (w : World) (e1 : ElemsIn w a1 n1 (str f1)) (e2 : ElemsIn w a2 n2 (str f2)) (e3 : ElemsIn w a3 n3 (str f3)) (e4 : ElemsIn w a4 n4 (str f4))
    (m1 : n1 ≤ maxLen) (m2 : n2 ≤ maxLen) (m3 : n3 ≤ maxLen) (m4 : n4 ≤ maxLen) :
    Calls Trym.prog 15 #[.slice a1 n1 c1, .slice a2 n2 c2, .slice a3 n3 c3, .slice a4 n4 c4] w fun e w' => YesNo e ∧ w' = w := by
  unfold maxLen at m1 m2 m3 m4
  go_enter Trym.func15, Trym.ntmps15
  by_cases h1 : n1 ≤ 1048576
  · go_wp2
    go_loop [9, 10] (fun z i => ∃ k zn : Nat, k ≤ n1 ∧ zn ≤ 1048576 ∧ i = .int .i64 k ∧ z = .int .i64 zn) (fun _ i => n1 - (intOf i).toNat)
    case atStart => exact ⟨0, n1, Nat.zero_le _, h1, rfl, by go_num⟩
    case round =>
      obtain ⟨k1, z1, hk1, hz1, rfl, rfl⟩ := hrel
      by_cases hlt : k1 < n1
      · obtain ⟨b, off, rfl, c0⟩ := e1 k1 hlt
        go_wp2
        · go_ret
          exact ⟨.inr rfl, rfl⟩
        · go_ret
          exact ⟨.inr rfl, rfl⟩
        · go_round
          case rel => exact ⟨k1 + 1, z1 + (f1 k1).size, by omega, by omega, by go_num, by go_num⟩
          case measure => simp [intOf]; omega
      · by_cases h2 : n2 ≤ 1048576
        · by_cases h2b : z1 + n2 ≤ 1048576
          · go_wp2
            go_loop [9, 11] (fun z i => ∃ k zn : Nat, k ≤ n2 ∧ zn ≤ 1048576 ∧ i = .int .i64 k ∧ z = .int .i64 zn) (fun _ i => n2 - (intOf i).toNat)
            case atStart => exact ⟨0, z1 + n2, Nat.zero_le _, h2b, rfl, by go_num⟩
            case round =>
              obtain ⟨k2, z2, hk2, hz2, rfl, rfl⟩ := hrel
              by_cases hlt : k2 < n2
              · obtain ⟨b, off, rfl, c0⟩ := e2 k2 hlt
                go_wp2
                · go_ret
                  exact ⟨.inr rfl, rfl⟩
                · go_ret
                  exact ⟨.inr rfl, rfl⟩
                · go_round
                  case rel => exact ⟨k2 + 1, z2 + (f2 k2).size, by omega, by omega, by go_num, by go_num⟩
                  case measure => simp [intOf]; omega
              · by_cases h3 : n3 ≤ 1048576
                · by_cases h3b : z2 + n3 ≤ 1048576
                  · go_wp2
                    go_loop [9, 12] (fun z i => ∃ k zn : Nat, k ≤ n3 ∧ zn ≤ 1048576 ∧ i = .int .i64 k ∧ z = .int .i64 zn) (fun _ i => n3 - (intOf i).toNat)
                    case atStart => exact ⟨0, z2 + n3, Nat.zero_le _, h3b, rfl, by go_num⟩
                    case round =>
                      obtain ⟨k3, z3, hk3, hz3, rfl, rfl⟩ := hrel
                      by_cases hlt : k3 < n3
                      · obtain ⟨b, off, rfl, c0⟩ := e3 k3 hlt
                        go_wp2
                        · go_ret
                          exact ⟨.inr rfl, rfl⟩
                        · go_ret
                          exact ⟨.inr rfl, rfl⟩
                        · go_round
                          case rel => exact ⟨k3 + 1, z3 + (f3 k3).size, by omega, by omega, by go_num, by go_num⟩
                          case measure => simp [intOf]; omega
                      · by_cases h4 : n4 ≤ 1048576
                        · by_cases h4b : z3 + n4 ≤ 1048576
                          · go_wp2
                            go_loop [9, 13] (fun z i => ∃ k zn : Nat, k ≤ n4 ∧ zn ≤ 1048576 ∧ i = .int .i64 k ∧ z = .int .i64 zn) (fun _ i => n4 - (intOf i).toNat)
                            case atStart => exact ⟨0, z3 + n4, Nat.zero_le _, h4b, rfl, by go_num⟩
                            case round =>
                              obtain ⟨k4, z4, hk4, hz4, rfl, rfl⟩ := hrel
                              by_cases hlt : k4 < n4
                              · obtain ⟨b, off, rfl, c0⟩ := e4 k4 hlt
                                go_wp2
                                · go_ret
                                  exact ⟨.inr rfl, rfl⟩
                                · go_ret
                                  exact ⟨.inr rfl, rfl⟩
                                · go_round
                                  case rel => exact ⟨k4 + 1, z4 + (f4 k4).size, by omega, by omega, by go_num, by go_num⟩
                                  case measure => simp [intOf]; omega
                              · go_wp2
                                go_ret
                                exact ⟨.inl rfl, rfl⟩
                          · go_wp2
                            go_ret
                            exact ⟨.inr rfl, rfl⟩
                        · go_wp2
                          go_ret
                          exact ⟨.inr rfl, rfl⟩
                  · go_wp2
                    go_ret
                    exact ⟨.inr rfl, rfl⟩
                · go_wp2
                  go_ret
                  exact ⟨.inr rfl, rfl⟩
          · go_wp2
            go_ret
            exact ⟨.inr rfl, rfl⟩
        · go_wp2
          go_ret
          exact ⟨.inr rfl, rfl⟩
  · go_wp2
    go_ret
    exact ⟨.inr rfl, rfl⟩

set_option maxHeartbeats 1000000 in
theorem bytes10 (total : Int) (ht : total = -1 ∨ (0 ≤ total ∧ total ≤ 1048576)) (ao : Option Addr) (n c : Nat) (f : Nat → ByteArray) (w : World) (he : ElemsIn w ao n (str f)) (hn : n ≤ 4096) :
    Calls Trym.prog 10 #[.int .i64 total, .slice ao n c] w fun e w' => (∃ t : Int, e = .returned (.int .i64 t) ∧ (t = -1 ∨ (0 ≤ t ∧ t ≤ 1048576))) ∧ w' = w := by
  go_enter Trym.func10, Trym.ntmps10
  rcases ht with rfl | ⟨h0, h1⟩
  · go_wp2
    go_ret
    exact ⟨⟨-1, rfl, .inl rfl⟩, rfl⟩
  · obtain ⟨t0, rfl⟩ : ∃ t0 : Nat, total = t0 := ⟨total.toNat, by omega⟩
    have hneg : ¬ (t0 : Int) < 0 := by omega
    go_wp2
    go_loop [0, 5] (fun z i => ∃ k zn : Nat, k ≤ n ∧ zn ≤ 1048576 ∧ i = .int .i64 k ∧ z = .int .i64 zn) (fun _ i => n - (intOf i).toNat)
    case atStart => exact ⟨0, t0, Nat.zero_le _, by omega, rfl, rfl⟩
    case round =>
      obtain ⟨k, zn, hk, hz, rfl, rfl⟩ := hrel
      by_cases hlt : k < n
      · obtain ⟨b, off, rfl, c0⟩ := he k hlt
        go_wp2
        · go_ret
          exact ⟨⟨-1, rfl, .inl rfl⟩, rfl⟩
        · go_ret
          exact ⟨⟨-1, rfl, .inl rfl⟩, rfl⟩
        · go_round
          case rel => exact ⟨k + 1, zn + 16 + (f k).size, by omega, by omega, by go_num, by go_num⟩
          case measure => simp [intOf]; omega
      · go_wp2
        go_ret
        exact ⟨⟨zn, rfl, .inr ⟨by omega, by omega⟩⟩, rfl⟩
end Go.Proofs.Qxb6600392aMods
