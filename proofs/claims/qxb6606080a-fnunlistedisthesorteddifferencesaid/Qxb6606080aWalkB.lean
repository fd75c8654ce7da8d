import Derived.Test.Qxb6606080aWalkA
namespace Go.Proofs.Qxb6606080a
open Go.RowKit
set_option linter.unusedVariables false

theorem Try.info9 : (Try.prog.info? 9).map (fun i => (i.zero, i.size, i.bytes)) = some (some (.string ⟨#[]⟩), 1, 16) := by kernel_rfl
theorem eqnil22 (w : World) (a : Option Addr) (n c : Nat) : (binOp .eql 22 (.slice a n c) (.slice none 0 0)).run Try.prog w = .ok (.bool a.isNone) w :=
  Lib.run_eql_slice_nil w 22 9 a n c 0 0 Try.underlying22

set_option maxRecDepth 100000 in
set_option maxHeartbeats 2000000 in
theorem within_any (a1 a2 : Option Addr) (n1 n2 c1 c2 : Nat) (S1 S2 : Nat → ByteArray) (w : World) (m1 : n1 ≤ 4096) (m2 : n2 ≤ 4096)
    (h1 : Strs w a1 n1 S1) (h2 : Strs w a2 n2 S2) :
    Calls Try.prog 7 #[.slice a1 n1 c1, .slice a2 n2 c2] w fun e w' => (∃ r : Bool, e = .returned (.bool r)) ∧ w' = w := by
  go_enter Try.func7, Try.ntmps7
  go_wp2
  go_loopg [5, 6] n1 (fun g z i wr => w = wr ∧ ∃ k zz : Nat, k ≤ n1 ∧ g = n1 - k ∧ zz ≤ 1048576 ∧ z = .int .i64 zz ∧ i = .int .i64 k)
  case atStart => exact ⟨rfl, 0, 16 * n1 + 16 * n2, Nat.zero_le _, rfl, by omega, by go_num, rfl⟩
  case round =>
    obtain ⟨rfl, k1, z1, hk1, rfl, hz1, rfl, rfl⟩ := hrel
    by_cases hlt1 : k1 < n1
    · obtain ⟨b, off, rfl, hc, hsz⟩ := h1 k1 hlt1
      clear h1 h2
      unfold maxLen at hsz
      by_cases hC : (S1 k1).size + z1 ≤ 1048576
      · go_wp2
        go_roundg (n1 - (k1 + 1))
        case measure => omega
        case rel => exact ⟨rfl, k1 + 1, z1 + (S1 k1).size, by omega, rfl, by omega, by go_num, by go_num⟩
      · go_wp2
        go_ret
        exact ⟨⟨false, rfl⟩, rfl⟩
    · clear h1
      go_wp2
      go_loopg [5, 7] n2 (fun g z i wr => w = wr ∧ ∃ k zz : Nat, k ≤ n2 ∧ g = n2 - k ∧ zz ≤ 1048576 ∧ z = .int .i64 zz ∧ i = .int .i64 k)
      case atStart => exact ⟨rfl, 0, z1, Nat.zero_le _, rfl, hz1, rfl, rfl⟩
      case round =>
        obtain ⟨rfl, k2, z2, hk2, rfl, hz2, rfl, rfl⟩ := hrel
        by_cases hlt2 : k2 < n2
        · obtain ⟨b, off, rfl, hc, hsz⟩ := h2 k2 hlt2
          clear h2
          unfold maxLen at hsz
          by_cases hC : (S2 k2).size + z2 ≤ 1048576
          · go_wp2
            go_roundg (n2 - (k2 + 1))
            case measure => omega
            case rel => exact ⟨rfl, k2 + 1, z2 + (S2 k2).size, by omega, rfl, by omega, by go_num, by go_num⟩
          · go_wp2
            go_ret
            exact ⟨⟨false, rfl⟩, rfl⟩
        · clear h2
          go_wp2
          go_ret
          exact ⟨⟨true, rfl⟩, rfl⟩

/-- s[i] < s[i-1] nowhere -/
def UpTo (S : Nat → ByteArray) (n : Nat) : Prop := ∀ i, i + 1 < n → Op.bytesLess (S (i + 1)).toList (S i).toList = false

set_option maxHeartbeats 2000000 in
theorem sortedUp_any (a : Option Addr) (n c : Nat) (S : Nat → ByteArray) (w : World) (hn : n ≤ 4096) (h : Strs w a n S) :
    Calls Try.prog 8 #[.slice a n c] w fun e w' => (∃ r : Bool, e = .returned (.bool r) ∧ (r = true → UpTo S n)) ∧ Below w.heap.size w w' := by
  go_enter Try.func8, Try.ntmps8
  go_wp2
  go_loopg [3] n (fun g i wr => ∃ k : Nat, (k + 1 ≤ n ∨ k = 0) ∧ g = n - k ∧ i = .int .i64 ((k : Int) + 1) ∧ Hid (UpTo S (k + 1)) ∧ Below w.heap.size w wr)
  case atStart => exact ⟨0, .inr rfl, rfl, rfl, (fun i hi => by omega), Below.refl _ _⟩
  case round =>
    obtain ⟨k, hk, rfl, rfl, H, hbel⟩ := hrel
    by_cases hlt : k + 1 < n
    · obtain ⟨b, off, rfl, hc0, _⟩ := h k (by omega)
      obtain ⟨b', off', e, hc1, _⟩ := h (k + 1) hlt
      simp only [Option.some.injEq, Addr.mk.injEq] at e
      obtain ⟨rfl, rfl, _⟩ := e
      have d0 : wr.cell? ⟨b, off + k, none⟩ = some (.string (S k)) := by rw [hbel.cell (World.block_lt_of_cell? _ _ hc0)]; exact hc0
      have d1 : wr.cell? ⟨b, off + (k + 1), none⟩ = some (.string (S (k + 1))) := by rw [hbel.cell (World.block_lt_of_cell? _ _ hc1)]; exact hc1
      clear h hc0 hc1 hk
      have i0 : (k : Int) < (n : Int) := by omega
      have i1 : (k : Int) + 1 < (n : Int) := by omega
      cases hl : Op.bytesLess (S (k + 1)).toList (S k).toList with
      | true =>
        go_wp2
        go_quiet (fail)
        go_wp2
        go_ret
        exact ⟨⟨false, rfl, fun h => by cases h⟩, below_drewN hbel _⟩
      | false =>
        go_wp2
        go_quiet (fail)
        go_wp2
        go_roundg (n - (k + 1))
        case measure => omega
        case rel => exact ⟨k + 1, .inl (by omega), rfl, by go_num, (fun i hi => by
          by_cases e : i = k
          · subst e; exact hl
          · exact H.out i (by omega)), below_drewN hbel _⟩
    · clear h
      have i1 : (n : Int) ≤ (k : Int) + 1 := by omega
      go_wp2
      go_ret
      exact ⟨⟨true, rfl, fun _ i hi => H.out i (by omega)⟩, hbel⟩

set_option maxHeartbeats 1000000 in
theorem member_any (a : Option Addr) (n c : Nat) (S : Nat → ByteArray) (x : ByteArray) (w : World) (hn : n ≤ 4096) (h : Strs w a n S) :
    Calls Try.prog 11 #[.slice a n c, .string x] w fun e w' => (∃ r : Bool, e = .returned (.bool r) ∧ (r = true ↔ ∃ i, i < n ∧ ((S i).toList == x.toList) = true)) ∧ w' = w := by
  go_enter Try.func11, Try.ntmps11
  go_wp2
  go_loopg [5] n (fun g i wr => w = wr ∧ ∃ k : Nat, k ≤ n ∧ g = n - k ∧ i = .int .i64 k ∧ Hid (∀ i, i < k → ((S i).toList == x.toList) = false))
  case atStart => exact ⟨rfl, 0, Nat.zero_le _, rfl, rfl, fun i hi => absurd hi (Nat.not_lt_zero _)⟩
  case round =>
    obtain ⟨rfl, k, hk, rfl, rfl, H⟩ := hrel
    by_cases hlt : k < n
    · obtain ⟨b, off, rfl, hc, _⟩ := h k hlt
      clear h
      cases he : ((S k).toList == x.toList) with
      | true =>
        go_wp2
        go_ret
        exact ⟨⟨true, rfl, ⟨fun _ => ⟨k, hlt, he⟩, fun _ => rfl⟩⟩, rfl⟩
      | false =>
        go_wp2
        go_roundg (n - (k + 1))
        case measure => omega
        case rel => exact ⟨rfl, k + 1, by omega, rfl, by go_num, fun i hi => by
          by_cases e : i = k
          · subst e; exact he
          · exact H.out i (by omega)⟩
    · clear h
      go_wp2
      go_ret
      refine ⟨⟨false, rfl, ⟨(fun h => by cases h), ?_⟩⟩, rfl⟩
      rintro ⟨i, hi, he⟩
      rw [H.out i (by omega)] at he
      exact he

set_option maxHeartbeats 1000000 in
theorem same_any (a1 a2 : Option Addr) (n c1 c2 : Nat) (S1 S2 : Nat → ByteArray) (w : World) (hn : n ≤ 4096) (h1 : Strs w a1 n S1) (h2 : Strs w a2 n S2) (he : ∀ i, i < n → S1 i = S2 i) :
    Calls Try.prog 12 #[.slice a1 n c1, .slice a2 n c2] w fun e w' => e = .returned (.bool true) ∧ Below w.heap.size w w' := by
  have hne : ((n : Int) != (n : Int)) = false := by simp
  go_enter Try.func12, Try.ntmps12
  go_wp2
  go_loopg [5] n (fun g i wr => ∃ k : Nat, k ≤ n ∧ g = n - k ∧ i = .int .i64 k ∧ Below w.heap.size w wr)
  case atStart => exact ⟨0, Nat.zero_le _, rfl, rfl, Below.refl _ _⟩
  case round =>
    obtain ⟨k, hk, rfl, rfl, hbel⟩ := hrel
    by_cases hlt : k < n
    · obtain ⟨b, off, rfl, hc, _⟩ := h1 k hlt
      obtain ⟨b2, off2, rfl, hc2, _⟩ := h2 k hlt
      rw [← he k hlt] at hc2
      have d1 : wr.cell? ⟨b, off + k, none⟩ = some (.string (S1 k)) := by rw [hbel.cell (World.block_lt_of_cell? _ _ hc)]; exact hc
      have d2 : wr.cell? ⟨b2, off2 + k, none⟩ = some (.string (S1 k)) := by rw [hbel.cell (World.block_lt_of_cell? _ _ hc2)]; exact hc2
      clear h1 h2 hc hc2 he
      go_wp2
      go_quiet (fail)
      go_wp2
      go_roundg (n - (k + 1))
      case measure => omega
      case rel => exact ⟨k + 1, by omega, rfl, by go_num, below_drewN hbel _⟩
    · clear h1 h2
      go_wp2
      go_ret
      exact ⟨rfl, hbel⟩

set_option maxHeartbeats 400000 in
theorem clone_nil (w : World) :
    Calls Try.prog 9 #[.slice none 0 0] w fun e w' => e = .returned (.slice none 0 0) ∧ w' = w := by
  have hq := eqnil22
  go_enter Try.func9, Try.ntmps9
  go_wp2
  go_ret
  exact ⟨rfl, rfl⟩

set_option maxHeartbeats 1000000 in
theorem clone_some (x : Addr) (n cap : Nat) (S : Nat → ByteArray) (w : World) (hn : n ≤ 4096) (h : Strs w (some x) n S) :
    Calls Try.prog 9 #[.slice (some x) n cap] w fun e w' => e = .returned (.slice (some ⟨w.heap.size, 0, none⟩) n n) ∧
      w'.rowIs w.heap.size 9 n (fun i => .string (S i)) ∧ Below w.heap.size w w' := by
  have hmk := run_make_row' (P := Try.prog) 22 9 (.string ⟨#[]⟩) 16 Try.underlying22 Try.info9 rfl .i64 .i64 n (by omega) (by omega)
  have hq := eqnil22
  go_enter Try.func9, Try.ntmps9
  go_wp2
  clear hmk hq
  go_loopg [4] n (fun g i wr => ∃ k : Nat, k ≤ n ∧ g = n - k ∧ i = .int .i64 k ∧ wr.rowIs w.heap.size 9 n (fun i => if i < k then .string (S i) else .string ⟨#[]⟩) ∧ Below w.heap.size w wr)
  case atStart => exact ⟨0, Nat.zero_le _, rfl, rfl, (World.rowIs_made w _ n 9).congr (fun j _ => by simp), (Below.refl _ _).alloc (Nat.le_refl _) _⟩
  case round =>
    obtain ⟨k, hk, rfl, rfl, hrow, hbel⟩ := hrel
    by_cases hlt : k < n
    · obtain ⟨b, off, e, hc, _⟩ := h k hlt
      simp only [Option.some.injEq] at e
      subst e
      have c1 : wr.cell? ⟨b, off + k, none⟩ = some (.string (S k)) := by rw [hbel.cell (World.block_lt_of_cell? _ _ hc)]; exact hc
      have c2 : wr.cell? ⟨w.heap.size, k, none⟩ = some (.string ⟨#[]⟩) := by simpa using hrow.cell hlt
      have c3 : wr.frozen? ⟨w.heap.size, k, none⟩ = false := hrow.frozen k
      clear h hc
      go_wp2
      go_roundg (n - (k + 1))
      case measure => omega
      case rel => exact ⟨k + 1, by omega, rfl, by go_num, (hrow.set k _).congr (fun j hj => by
        by_cases e : j = k
        · subst e; simp
        · by_cases h2 : j < k
          · simp [e, h2, show j < k + 1 by omega]
          · simp [e, h2, show ¬ j < k + 1 by omega]), hbel.setCell (Nat.le_refl _) _⟩
    · clear h
      go_wp2
      go_ret
      have e : k = n := by omega
      subst e
      exact ⟨rfl, hrow.congr (fun j hj => by simp [hj]), hbel⟩
end Go.Proofs.Qxb6606080a
