import Derived.Test.Qxb6606063aWalkA
namespace Go.Proofs.Qxb6606063a
open Go.RowKit
set_option linter.unusedVariables false

set_option maxHeartbeats 1000000 in
theorem addList_any (t : Int) (a : Option Addr) (n c : Nat) (S : Nat → ByteArray) (w : World) (ht0 : 0 ≤ t) (ht : t ≤ 3145728) (hm : n ≤ 9223372036854775807)
    (h : Strs w a n S) (hS : ∀ i, i < n → (S i).size ≤ 1048576) :
    Calls Try.prog 15 #[.int .i64 t, .slice a n c] w fun e w' => (∃ t' : Int, e = .returned (.int .i64 t') ∧ 0 ≤ t' ∧ t' ≤ 3145728) ∧ w' = w := by
  go_enter Try.func15, Try.ntmps15
  go_wp2
  go_loopg [0, 5] n (fun g z i wr => w = wr ∧ ∃ (k : Nat) (z0 : Int), k ≤ n ∧ g = n - k ∧ 0 ≤ z0 ∧ z0 ≤ 3145728 ∧ z = .int .i64 z0 ∧ i = .int .i64 k)
  case atStart => exact ⟨rfl, 0, t, Nat.zero_le _, rfl, ht0, ht, rfl, rfl⟩
  case round =>
    obtain ⟨rfl, k, z0, hk, rfl, hz0, hz1, rfl, rfl⟩ := hrel
    by_cases hlt : k < n
    · obtain ⟨b, off, rfl, hc, hsz⟩ := h k hlt
      have hS' := hS k hlt
      clear h hS hsz
      by_cases hgt : (1048576 : Int) < z0
      · go_wp2
        go_ret
        exact ⟨⟨z0, rfl, hz0, hz1⟩, rfl⟩
      · go_wp2
        go_roundg (n - (k + 1))
        case measure => omega
        case rel => exact ⟨rfl, k + 1, _, by omega, rfl, by omega, by omega, rfl, by go_num⟩
    · clear h hS
      go_wp2
      go_ret
      exact ⟨⟨z0, rfl, hz0, hz1⟩, rfl⟩

set_option maxHeartbeats 1000000 in
theorem oversized_any (at0 : ByteArray) (a1 a2 a3 a4 a5 : Option Addr) (n1 n2 n3 n4 n5 c1 c2 c3 c4 c5 : Nat) (S1 S2 S3 S4 S5 : Nat → ByteArray) (w : World)
    (hs0 : at0.size ≤ 1048576) (m1 : n1 ≤ 9223372036854775807) (m2 : n2 ≤ 9223372036854775807) (m3 : n3 ≤ 9223372036854775807) (m4 : n4 ≤ 9223372036854775807) (m5 : n5 ≤ 9223372036854775807)
    (h1 : Strs w a1 n1 S1) (h2 : Strs w a2 n2 S2) (h3 : Strs w a3 n3 S3) (h4 : Strs w a4 n4 S4) (h5 : Strs w a5 n5 S5)
    (g1 : ∀ i, i < n1 → (S1 i).size ≤ 1048576) (g2 : ∀ i, i < n2 → (S2 i).size ≤ 1048576) (g3 : ∀ i, i < n3 → (S3 i).size ≤ 1048576) (g4 : ∀ i, i < n4 → (S4 i).size ≤ 1048576) (g5 : ∀ i, i < n5 → (S5 i).size ≤ 1048576) :
    Calls Try.prog 7 #[.string at0, .slice a1 n1 c1, .slice a2 n2 c2, .slice a3 n3 c3, .slice a4 n4 c4, .slice a5 n5 c5] w fun e w' => (∃ r : Bool, e = .returned (.bool r)) ∧ w' = w := by
  go_enter Try.func7, Try.ntmps7
  go_wp2_with fail
  refine (addList_any _ a1 n1 c1 S1 _ (by omega) (by omega) m1 h1 g1).mono ?_
  rintro e w' ⟨⟨t1, rfl, l1, u1⟩, rfl⟩
  go_wp2_with fail
  refine (addList_any _ a2 n2 c2 S2 _ (by omega) (by omega) m2 h2 g2).mono ?_
  rintro e w' ⟨⟨t2, rfl, l2, u2⟩, rfl⟩
  go_wp2_with fail
  refine (addList_any _ a3 n3 c3 S3 _ (by omega) (by omega) m3 h3 g3).mono ?_
  rintro e w' ⟨⟨t3, rfl, l3, u3⟩, rfl⟩
  go_wp2_with fail
  refine (addList_any _ a4 n4 c4 S4 _ (by omega) (by omega) m4 h4 g4).mono ?_
  rintro e w' ⟨⟨t4, rfl, l4, u4⟩, rfl⟩
  go_wp2_with fail
  refine (addList_any _ a5 n5 c5 S5 _ (by omega) (by omega) m5 h5 g5).mono ?_
  rintro e w' ⟨⟨t5, rfl, l5, u5⟩, rfl⟩
  go_wp2_with fail
  go_ret
  exact ⟨⟨_, rfl⟩, rfl⟩
end Go.Proofs.Qxb6606063a
