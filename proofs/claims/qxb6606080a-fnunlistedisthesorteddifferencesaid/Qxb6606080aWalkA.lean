import Derived.Test.Qxb6606080aRows
import Derived.Test.Qxb6606080aPlain
import Derived.WalkKit
import Derived.WalkSpells
import Derived.WalkLawsBesides
import Derived.Deep.LoopGhost
import Derived.Deep.OwnRows
import Derived.Deep.CutRange
import Derived.Deep.QuietTactic
import Derived.BigQuiet
namespace Go.Proofs.Qxb6606080a
open Go.RowKit
set_option linter.unusedVariables false

/-- what the walks are told of a slice of strings: each element lies where the slice leads -/
def Strs (w : World) (a : Option Addr) (n : Nat) (S : Nat → ByteArray) : Prop :=
  ∀ i, i < n → ∃ b off, a = some ⟨b, off, none⟩ ∧ w.cell? ⟨b, off + i, none⟩ = some (.string (S i)) ∧ (S i).size ≤ maxLen

theorem Strs.below {w w' : World} {a : Option Addr} {n : Nat} {S : Nat → ByteArray} (h : Strs w a n S) (hb : Below w.heap.size w w') : Strs w' a n S := by
  intro i hi
  obtain ⟨b, off, e, hc, hs⟩ := h i hi
  exact ⟨b, off, e, by rw [hb.cell (World.block_lt_of_cell? _ _ hc)]; exact hc, hs⟩

set_option maxRecDepth 100000 in
set_option maxHeartbeats 2000000 in
theorem zzBytes6 (a1 a2 : Option Addr) (n1 n2 c1 c2 : Nat) (S1 S2 : Nat → ByteArray) (w : World) (m1 : n1 ≤ 9223372036854775807) (m2 : n2 ≤ 9223372036854775807)
    (h1 : Strs w a1 n1 S1) (h2 : Strs w a2 n2 S2) :
    Calls Try.prog 6 #[.slice a1 n1 c1, .slice a2 n2 c2] w fun e w' => (∃ r : Bool, e = .returned (.bool r)) ∧ w' = w := by
  obtain ⟨zz0, hz0⟩ : ∃ z : Nat, z = 0 := ⟨_, rfl⟩
  subst hz0
  go_enter Try.func6, Try.ntmps6
  by_cases hA1 : n1 ≤ 1048576
  · by_cases hB1 : 0 + n1 ≤ 1048576
    · go_wp2
      go_loopg [5, 6] n1 (fun g z i wr => w = wr ∧ ∃ k zz : Nat, k ≤ n1 ∧ g = n1 - k ∧ zz ≤ 1048576 ∧ z = .int .i64 zz ∧ i = .int .i64 k ∧ Hid (∀ i, i < k → (S1 i).size ≤ 1048576))
      case atStart => exact ⟨rfl, 0, 0 + n1, Nat.zero_le _, rfl, hB1, by go_num, rfl, fun i hi => absurd hi (Nat.not_lt_zero _)⟩
      case round =>
        obtain ⟨rfl, k1, zz1, hk1, rfl, hz1, rfl, rfl, H1⟩ := hrel
        by_cases hlt1 : k1 < n1
        · obtain ⟨b, off, rfl, hc, hsz⟩ := h1 k1 hlt1
          clear h1 h2
          unfold maxLen at hsz
          by_cases hC : (S1 k1).size ≤ 1048576
          · by_cases hD : zz1 + (S1 k1).size ≤ 1048576
            · go_wp2
              go_roundg (n1 - (k1 + 1))
              case measure => omega
              case rel => exact ⟨rfl, k1 + 1, zz1 + (S1 k1).size, by omega, rfl, hD, by go_num, by go_num, fun i hi => by
                by_cases e : i = k1
                · subst e; exact hC
                · exact H1.out i (by omega)⟩
            · go_wp2
              go_ret
              exact ⟨⟨false, rfl⟩, rfl⟩
          · go_wp2
            go_ret
            exact ⟨⟨false, rfl⟩, rfl⟩
        · clear H1
          by_cases hA2 : n2 ≤ 1048576
          · by_cases hB2 : zz1 + n2 ≤ 1048576
            · go_wp2
              go_loopg [5, 7] n2 (fun g z i wr => w = wr ∧ ∃ k zz : Nat, k ≤ n2 ∧ g = n2 - k ∧ zz ≤ 1048576 ∧ z = .int .i64 zz ∧ i = .int .i64 k ∧ Hid (∀ i, i < k → (S2 i).size ≤ 1048576))
              case atStart => exact ⟨rfl, 0, zz1 + n2, Nat.zero_le _, rfl, hB2, by go_num, rfl, fun i hi => absurd hi (Nat.not_lt_zero _)⟩
              case round =>
                obtain ⟨rfl, k2, zz2, hk2, rfl, hz2, rfl, rfl, H2⟩ := hrel
                by_cases hlt2 : k2 < n2
                · obtain ⟨b, off, rfl, hc, hsz⟩ := h2 k2 hlt2
                  clear h2
                  unfold maxLen at hsz
                  by_cases hC : (S2 k2).size ≤ 1048576
                  · by_cases hD : zz2 + (S2 k2).size ≤ 1048576
                    · go_wp2
                      go_roundg (n2 - (k2 + 1))
                      case measure => omega
                      case rel => exact ⟨rfl, k2 + 1, zz2 + (S2 k2).size, by omega, rfl, hD, by go_num, by go_num, fun i hi => by
                        by_cases e : i = k2
                        · subst e; exact hC
                        · exact H2.out i (by omega)⟩
                    · go_wp2
                      go_ret
                      exact ⟨⟨false, rfl⟩, rfl⟩
                  · go_wp2
                    go_ret
                    exact ⟨⟨false, rfl⟩, rfl⟩
                · clear H2
                  go_wp2
                  go_ret
                  exact ⟨⟨true, rfl⟩, rfl⟩
            · go_wp2
              go_ret
              exact ⟨⟨false, rfl⟩, rfl⟩
          · go_wp2
            go_ret
            exact ⟨⟨false, rfl⟩, rfl⟩
    · omega
  · go_wp2
    go_ret
    exact ⟨⟨false, rfl⟩, rfl⟩

set_option maxRecDepth 100000 in
set_option maxHeartbeats 2000000 in
theorem zzBytes14 (a1 a2 : Option Addr) (n1 n2 c1 c2 : Nat) (S1 S2 : Nat → ByteArray) (w : World) (m1 : n1 ≤ 9223372036854775807) (m2 : n2 ≤ 9223372036854775807)
    (h1 : Strs w a1 n1 S1) (h2 : Strs w a2 n2 S2) :
    Calls Try.prog 14 #[.slice a1 n1 c1, .slice a2 n2 c2] w fun e w' => (∃ r : Bool, e = .returned (.bool r)) ∧ w' = w := by
  obtain ⟨zz0, hz0⟩ : ∃ z : Nat, z = 0 := ⟨_, rfl⟩
  subst hz0
  go_enter Try.func14, Try.ntmps14
  by_cases hA1 : n1 ≤ 1048576
  · by_cases hB1 : 0 + n1 ≤ 1048576
    · go_wp2
      go_loopg [5, 6] n1 (fun g z i wr => w = wr ∧ ∃ k zz : Nat, k ≤ n1 ∧ g = n1 - k ∧ zz ≤ 1048576 ∧ z = .int .i64 zz ∧ i = .int .i64 k ∧ Hid (∀ i, i < k → (S1 i).size ≤ 1048576))
      case atStart => exact ⟨rfl, 0, 0 + n1, Nat.zero_le _, rfl, hB1, by go_num, rfl, fun i hi => absurd hi (Nat.not_lt_zero _)⟩
      case round =>
        obtain ⟨rfl, k1, zz1, hk1, rfl, hz1, rfl, rfl, H1⟩ := hrel
        by_cases hlt1 : k1 < n1
        · obtain ⟨b, off, rfl, hc, hsz⟩ := h1 k1 hlt1
          clear h1 h2
          unfold maxLen at hsz
          by_cases hC : (S1 k1).size ≤ 1048576
          · by_cases hD : zz1 + (S1 k1).size ≤ 1048576
            · go_wp2
              go_roundg (n1 - (k1 + 1))
              case measure => omega
              case rel => exact ⟨rfl, k1 + 1, zz1 + (S1 k1).size, by omega, rfl, hD, by go_num, by go_num, fun i hi => by
                by_cases e : i = k1
                · subst e; exact hC
                · exact H1.out i (by omega)⟩
            · go_wp2
              go_ret
              exact ⟨⟨false, rfl⟩, rfl⟩
          · go_wp2
            go_ret
            exact ⟨⟨false, rfl⟩, rfl⟩
        · clear H1
          by_cases hA2 : n2 ≤ 1048576
          · by_cases hB2 : zz1 + n2 ≤ 1048576
            · go_wp2
              go_loopg [5, 7] n2 (fun g z i wr => w = wr ∧ ∃ k zz : Nat, k ≤ n2 ∧ g = n2 - k ∧ zz ≤ 1048576 ∧ z = .int .i64 zz ∧ i = .int .i64 k ∧ Hid (∀ i, i < k → (S2 i).size ≤ 1048576))
              case atStart => exact ⟨rfl, 0, zz1 + n2, Nat.zero_le _, rfl, hB2, by go_num, rfl, fun i hi => absurd hi (Nat.not_lt_zero _)⟩
              case round =>
                obtain ⟨rfl, k2, zz2, hk2, rfl, hz2, rfl, rfl, H2⟩ := hrel
                by_cases hlt2 : k2 < n2
                · obtain ⟨b, off, rfl, hc, hsz⟩ := h2 k2 hlt2
                  clear h2
                  unfold maxLen at hsz
                  by_cases hC : (S2 k2).size ≤ 1048576
                  · by_cases hD : zz2 + (S2 k2).size ≤ 1048576
                    · go_wp2
                      go_roundg (n2 - (k2 + 1))
                      case measure => omega
                      case rel => exact ⟨rfl, k2 + 1, zz2 + (S2 k2).size, by omega, rfl, hD, by go_num, by go_num, fun i hi => by
                        by_cases e : i = k2
                        · subst e; exact hC
                        · exact H2.out i (by omega)⟩
                    · go_wp2
                      go_ret
                      exact ⟨⟨false, rfl⟩, rfl⟩
                  · go_wp2
                    go_ret
                    exact ⟨⟨false, rfl⟩, rfl⟩
                · clear H2
                  go_wp2
                  go_ret
                  exact ⟨⟨true, rfl⟩, rfl⟩
            · go_wp2
              go_ret
              exact ⟨⟨false, rfl⟩, rfl⟩
          · go_wp2
            go_ret
            exact ⟨⟨false, rfl⟩, rfl⟩
    · omega
  · go_wp2
    go_ret
    exact ⟨⟨false, rfl⟩, rfl⟩
end Go.Proofs.Qxb6606080a
