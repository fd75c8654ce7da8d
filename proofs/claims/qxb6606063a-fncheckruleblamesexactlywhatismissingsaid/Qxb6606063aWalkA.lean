import Derived.Test.Qxb6606063aRows
import Derived.WalkKit
import Derived.WalkSpells
import Derived.WalkLawsBesides
import Derived.Deep.LoopGhost
import Derived.Deep.OwnRows
import Derived.Deep.CutRange
namespace Go.Proofs.Qxb6606063a
open Go.RowKit
set_option linter.unusedVariables false

/-- what the walks are told of a slice of strings that came in: each element lies where the slice leads -/
def Strs (w : World) (a : Option Addr) (n : Nat) (S : Nat → ByteArray) : Prop :=
  ∀ i, i < n → ∃ b off, a = some ⟨b, off, none⟩ ∧ w.cell? ⟨b, off + i, none⟩ = some (.string (S i)) ∧ (S i).size ≤ maxLen

set_option maxRecDepth 100000 in
set_option maxHeartbeats 4000000 in
theorem zzBytes_any (at0 : ByteArray) (a1 a2 a3 a4 a5 : Option Addr) (n1 n2 n3 n4 n5 c1 c2 c3 c4 c5 : Nat) (S1 S2 S3 S4 S5 : Nat → ByteArray) (cw : Bool) (w : World)
    (hs0 : at0.size ≤ 9223372036854775807) (m1 : n1 ≤ 9223372036854775807) (m2 : n2 ≤ 9223372036854775807) (m3 : n3 ≤ 9223372036854775807) (m4 : n4 ≤ 9223372036854775807) (m5 : n5 ≤ 9223372036854775807)
    (h1 : Strs w a1 n1 S1) (h2 : Strs w a2 n2 S2) (h3 : Strs w a3 n3 S3) (h4 : Strs w a4 n4 S4) (h5 : Strs w a5 n5 S5) :
    Calls Try.prog 6 #[.string at0, .slice a1 n1 c1, .slice a2 n2 c2, .slice a3 n3 c3, .slice a4 n4 c4, .slice a5 n5 c5, .bool cw] w fun e w' =>
      (e = .returned (.bool false) ∨ (e = .returned (.bool true) ∧ at0.size ≤ 1048576 ∧ (∀ i, i < n1 → (S1 i).size ≤ 1048576) ∧ (∀ i, i < n2 → (S2 i).size ≤ 1048576) ∧ (∀ i, i < n3 → (S3 i).size ≤ 1048576) ∧ (∀ i, i < n4 → (S4 i).size ≤ 1048576) ∧ (∀ i, i < n5 → (S5 i).size ≤ 1048576) ∧ n1 ≤ 1048576 ∧ n2 ≤ 1048576 ∧ n3 ≤ 1048576 ∧ n4 ≤ 1048576 ∧ n5 ≤ 1048576)) ∧ w' = w := by
  by_cases hat : at0.size ≤ 1048576
  · obtain ⟨zz0, hzz0⟩ : ∃ z, z = at0.size := ⟨_, rfl⟩
    have hz0 : zz0 ≤ 1048576 := by omega
    go_enter Try.func6, Try.ntmps6
    go_upto_if 32 with (fail)
    rw [← hzz0]
    have HZ0 : Hid (zz0 = at0.size) := hzz0
    clear hzz0
    by_cases hA1 : n1 ≤ 1048576
    · by_cases hB1 : zz0 + n1 ≤ 1048576
      · go_wp2
        go_loopg [15, 16] n1 (fun g z i wr => w = wr ∧ ∃ k zz : Nat, k ≤ n1 ∧ g = n1 - k ∧ zz ≤ 1048576 ∧ z = .int .i64 zz ∧ i = .int .i64 k ∧ Hid (∀ i, i < k → (S1 i).size ≤ 1048576))
        case atStart => exact ⟨rfl, 0, zz0 + n1, Nat.zero_le _, rfl, hB1, by go_num, rfl, fun i hi => absurd hi (Nat.not_lt_zero _)⟩
        case round =>
          obtain ⟨rfl, k1, zz1, hk1, rfl, hz1, rfl, rfl, H1⟩ := hrel
          by_cases hlt1 : k1 < n1
          · obtain ⟨b, off, rfl, hc, hsz⟩ := h1 k1 hlt1
            clear h1 h2 h3 h4 h5
            unfold maxLen at hsz
            by_cases hC : (S1 k1).size ≤ 1048576
            · by_cases hD : zz1 + (S1 k1).size ≤ 1048576
              · go_wp2
                go_roundg (n1 - (k1 + 1))
                case measure => omega
                case rel => exact ⟨rfl, k1 + 1, zz1 + (S1 k1).size, by omega, rfl, hD, by go_num, by go_num, fun i hi => by
                  by_cases e : i = k1
                  · subst e; exact hC
                  · exact H1.out i (by omega)⟩
              · go_wp2
                go_ret
                exact ⟨Or.inl rfl, rfl⟩
            · go_wp2
              go_ret
              exact ⟨Or.inl rfl, rfl⟩
          · have HH1 : Hid (∀ i, i < n1 → (S1 i).size ≤ 1048576) := fun i hi => H1.out i (by omega)
            clear H1
            by_cases hA2 : n2 ≤ 1048576
            · by_cases hB2 : zz1 + n2 ≤ 1048576
              · go_wp2
                go_loopg [15, 17] n2 (fun g z i wr => w = wr ∧ ∃ k zz : Nat, k ≤ n2 ∧ g = n2 - k ∧ zz ≤ 1048576 ∧ z = .int .i64 zz ∧ i = .int .i64 k ∧ Hid (∀ i, i < k → (S2 i).size ≤ 1048576))
                case atStart => exact ⟨rfl, 0, zz1 + n2, Nat.zero_le _, rfl, hB2, by go_num, rfl, fun i hi => absurd hi (Nat.not_lt_zero _)⟩
                case round =>
                  obtain ⟨rfl, k2, zz2, hk2, rfl, hz2, rfl, rfl, H2⟩ := hrel
                  by_cases hlt2 : k2 < n2
                  · obtain ⟨b, off, rfl, hc, hsz⟩ := h2 k2 hlt2
                    clear h2 h3 h4 h5
                    unfold maxLen at hsz
                    by_cases hC : (S2 k2).size ≤ 1048576
                    · by_cases hD : zz2 + (S2 k2).size ≤ 1048576
                      · go_wp2
                        go_roundg (n2 - (k2 + 1))
                        case measure => omega
                        case rel => exact ⟨rfl, k2 + 1, zz2 + (S2 k2).size, by omega, rfl, hD, by go_num, by go_num, fun i hi => by
                          by_cases e : i = k2
                          · subst e; exact hC
                          · exact H2.out i (by omega)⟩
                      · go_wp2
                        go_ret
                        exact ⟨Or.inl rfl, rfl⟩
                    · go_wp2
                      go_ret
                      exact ⟨Or.inl rfl, rfl⟩
                  · have HH2 : Hid (∀ i, i < n2 → (S2 i).size ≤ 1048576) := fun i hi => H2.out i (by omega)
                    clear H2
                    by_cases hA3 : n3 ≤ 1048576
                    · by_cases hB3 : zz2 + n3 ≤ 1048576
                      · go_wp2
                        go_loopg [15, 18] n3 (fun g z i wr => w = wr ∧ ∃ k zz : Nat, k ≤ n3 ∧ g = n3 - k ∧ zz ≤ 1048576 ∧ z = .int .i64 zz ∧ i = .int .i64 k ∧ Hid (∀ i, i < k → (S3 i).size ≤ 1048576))
                        case atStart => exact ⟨rfl, 0, zz2 + n3, Nat.zero_le _, rfl, hB3, by go_num, rfl, fun i hi => absurd hi (Nat.not_lt_zero _)⟩
                        case round =>
                          obtain ⟨rfl, k3, zz3, hk3, rfl, hz3, rfl, rfl, H3⟩ := hrel
                          by_cases hlt3 : k3 < n3
                          · obtain ⟨b, off, rfl, hc, hsz⟩ := h3 k3 hlt3
                            clear h3 h4 h5
                            unfold maxLen at hsz
                            by_cases hC : (S3 k3).size ≤ 1048576
                            · by_cases hD : zz3 + (S3 k3).size ≤ 1048576
                              · go_wp2
                                go_roundg (n3 - (k3 + 1))
                                case measure => omega
                                case rel => exact ⟨rfl, k3 + 1, zz3 + (S3 k3).size, by omega, rfl, hD, by go_num, by go_num, fun i hi => by
                                  by_cases e : i = k3
                                  · subst e; exact hC
                                  · exact H3.out i (by omega)⟩
                              · go_wp2
                                go_ret
                                exact ⟨Or.inl rfl, rfl⟩
                            · go_wp2
                              go_ret
                              exact ⟨Or.inl rfl, rfl⟩
                          · have HH3 : Hid (∀ i, i < n3 → (S3 i).size ≤ 1048576) := fun i hi => H3.out i (by omega)
                            clear H3
                            by_cases hA4 : n4 ≤ 1048576
                            · by_cases hB4 : zz3 + n4 ≤ 1048576
                              · go_wp2
                                go_loopg [15, 19] n4 (fun g z i wr => w = wr ∧ ∃ k zz : Nat, k ≤ n4 ∧ g = n4 - k ∧ zz ≤ 1048576 ∧ z = .int .i64 zz ∧ i = .int .i64 k ∧ Hid (∀ i, i < k → (S4 i).size ≤ 1048576))
                                case atStart => exact ⟨rfl, 0, zz3 + n4, Nat.zero_le _, rfl, hB4, by go_num, rfl, fun i hi => absurd hi (Nat.not_lt_zero _)⟩
                                case round =>
                                  obtain ⟨rfl, k4, zz4, hk4, rfl, hz4, rfl, rfl, H4⟩ := hrel
                                  by_cases hlt4 : k4 < n4
                                  · obtain ⟨b, off, rfl, hc, hsz⟩ := h4 k4 hlt4
                                    clear h4 h5
                                    unfold maxLen at hsz
                                    by_cases hC : (S4 k4).size ≤ 1048576
                                    · by_cases hD : zz4 + (S4 k4).size ≤ 1048576
                                      · go_wp2
                                        go_roundg (n4 - (k4 + 1))
                                        case measure => omega
                                        case rel => exact ⟨rfl, k4 + 1, zz4 + (S4 k4).size, by omega, rfl, hD, by go_num, by go_num, fun i hi => by
                                          by_cases e : i = k4
                                          · subst e; exact hC
                                          · exact H4.out i (by omega)⟩
                                      · go_wp2
                                        go_ret
                                        exact ⟨Or.inl rfl, rfl⟩
                                    · go_wp2
                                      go_ret
                                      exact ⟨Or.inl rfl, rfl⟩
                                  · have HH4 : Hid (∀ i, i < n4 → (S4 i).size ≤ 1048576) := fun i hi => H4.out i (by omega)
                                    clear H4
                                    by_cases hA5 : n5 ≤ 1048576
                                    · by_cases hB5 : zz4 + n5 ≤ 1048576
                                      · go_wp2
                                        go_loopg [15, 20] n5 (fun g z i wr => w = wr ∧ ∃ k zz : Nat, k ≤ n5 ∧ g = n5 - k ∧ zz ≤ 1048576 ∧ z = .int .i64 zz ∧ i = .int .i64 k ∧ Hid (∀ i, i < k → (S5 i).size ≤ 1048576))
                                        case atStart => exact ⟨rfl, 0, zz4 + n5, Nat.zero_le _, rfl, hB5, by go_num, rfl, fun i hi => absurd hi (Nat.not_lt_zero _)⟩
                                        case round =>
                                          obtain ⟨rfl, k5, zz5, hk5, rfl, hz5, rfl, rfl, H5⟩ := hrel
                                          by_cases hlt5 : k5 < n5
                                          · obtain ⟨b, off, rfl, hc, hsz⟩ := h5 k5 hlt5
                                            clear h5
                                            unfold maxLen at hsz
                                            by_cases hC : (S5 k5).size ≤ 1048576
                                            · by_cases hD : zz5 + (S5 k5).size ≤ 1048576
                                              · go_wp2
                                                go_roundg (n5 - (k5 + 1))
                                                case measure => omega
                                                case rel => exact ⟨rfl, k5 + 1, zz5 + (S5 k5).size, by omega, rfl, hD, by go_num, by go_num, fun i hi => by
                                                  by_cases e : i = k5
                                                  · subst e; exact hC
                                                  · exact H5.out i (by omega)⟩
                                              · go_wp2
                                                go_ret
                                                exact ⟨Or.inl rfl, rfl⟩
                                            · go_wp2
                                              go_ret
                                              exact ⟨Or.inl rfl, rfl⟩
                                          · have HH5 : Hid (∀ i, i < n5 → (S5 i).size ≤ 1048576) := fun i hi => H5.out i (by omega)
                                            clear H5
                                            go_wp2
                                            go_ret
                                            exact ⟨Or.inr ⟨rfl, hat, HH1.out, HH2.out, HH3.out, HH4.out, HH5.out, hA1, hA2, hA3, hA4, hA5⟩, rfl⟩
                                      · go_wp2
                                        go_ret
                                        exact ⟨Or.inl rfl, rfl⟩
                                    · go_wp2
                                      go_ret
                                      exact ⟨Or.inl rfl, rfl⟩
                              · go_wp2
                                go_ret
                                exact ⟨Or.inl rfl, rfl⟩
                            · go_wp2
                              go_ret
                              exact ⟨Or.inl rfl, rfl⟩
                      · go_wp2
                        go_ret
                        exact ⟨Or.inl rfl, rfl⟩
                    · go_wp2
                      go_ret
                      exact ⟨Or.inl rfl, rfl⟩
              · go_wp2
                go_ret
                exact ⟨Or.inl rfl, rfl⟩
            · go_wp2
              go_ret
              exact ⟨Or.inl rfl, rfl⟩
      · go_wp2
        go_ret
        exact ⟨Or.inl rfl, rfl⟩
    · go_wp2
      go_ret
      exact ⟨Or.inl rfl, rfl⟩
  · go_enter Try.func6, Try.ntmps6
    go_wp2
    go_ret
    exact ⟨Or.inl rfl, rfl⟩
end Go.Proofs.Qxb6606063a
