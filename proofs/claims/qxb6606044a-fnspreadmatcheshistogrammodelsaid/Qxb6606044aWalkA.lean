import Derived.Test.Qxb6606044aRows
import Derived.WalkKit
import Derived.WalkSpells
import Derived.WalkLawsBesides
import Derived.Deep.LoopGhost
import Derived.Deep.OwnRows
import Derived.Deep.QuietTactic
import Derived.BigQuiet
namespace Go.Proofs.Qxb6606044a
open Go.RowKit
set_option linter.unusedVariables false

theorem Try.info5 : (Try.prog.info? 5).map (fun i => (i.zero, i.size, i.bytes)) = some (some (.int .u8 0), 1, 1) := by kernel_rfl

theorem eqnil22 (w : World) (a : Option Addr) (n c : Nat) : (binOp .eql 22 (.slice a n c) (.slice none 0 0)).run Try.prog w = .ok (.bool a.isNone) w :=
  Lib.run_eql_slice_nil w 22 5 a n c 0 0 Try.underlying22

set_option maxHeartbeats 400000 in
theorem clone_nil (w : World) :
    Calls Try.prog 7 #[.slice none 0 0] w fun e w' => e = .returned (.slice none 0 0) ∧ w' = w := by
  have hq := eqnil22
  go_enter Try.func7, Try.ntmps7
  go_wp2
  go_ret
  exact ⟨rfl, rfl⟩

set_option maxHeartbeats 400000 in
theorem clone_some (x : Addr) (len cap : Nat) (z : Nat → Int) (w : World) (hlen : len ≤ 1048576)
    (hc : ∀ i, i < len → w.cell? (x.add i) = some (.int .u8 (z i))) :
    Calls Try.prog 7 #[.slice (some x) len cap] w fun e w' => e = .returned (.slice (some ⟨w.heap.size, 0, none⟩) len len) ∧
      w'.rowIs w.heap.size 5 len (fun i => .int .u8 (z i)) ∧ Below w.heap.size w w' := by
  have hmk := run_make_row' (P := Try.prog) 22 5 (.int .u8 0) 1 Try.underlying22 Try.info5 rfl .i64 .i64 len (by omega) (by omega)
  have hq := eqnil22
  go_enter Try.func7, Try.ntmps7
  go_wp2
  clear hmk hq
  go_loopg [4] len (fun g i wr => ∃ k : Nat, k ≤ len ∧ g = len - k ∧ i = .int .i64 k ∧ wr.rowIs w.heap.size 5 len (fun i => if i < k then .int .u8 (z i) else .int .u8 0) ∧ Below w.heap.size w wr)
  case atStart => exact ⟨0, Nat.zero_le _, rfl, rfl, (World.rowIs_made w _ len 5).congr (fun j _ => by simp), (Below.refl _ _).alloc (Nat.le_refl _) _⟩
  case round =>
    obtain ⟨k, hk, rfl, rfl, hrow, hbel⟩ := hrel
    by_cases hlt : k < len
    · have c1 : wr.cell? (x.add k) = some (.int .u8 (z k)) := by
        have h := hc k hlt
        rw [hbel.cell (World.block_lt_of_cell? _ _ h)]; exact h
      have c2 : wr.cell? ⟨w.heap.size, k, none⟩ = some (.int .u8 0) := by simpa using hrow.cell hlt
      have c3 : wr.frozen? ⟨w.heap.size, k, none⟩ = false := hrow.frozen k
      have c0 := hc 0 (by omega)
      obtain ⟨b, off, spot⟩ := x
      have hspot : spot = none := by simpa [Addr.add] using World.cell?_spot c0
      subst hspot
      rw [WideShapes.add_plain] at c1
      clear hc c0
      go_wp2
      go_roundg (len - (k + 1))
      case measure => omega
      case rel => exact ⟨k + 1, by omega, rfl, by go_num, (hrow.set k _).congr (fun j hj => by
        by_cases e : j = k
        · subst e; simp
        · by_cases h2 : j < k
          · simp [e, h2, show j < k + 1 by omega]
          · simp [e, h2, show ¬ j < k + 1 by omega]), hbel.setCell (Nat.le_refl _) _⟩
    · go_wp2
      go_ret
      have e : k = len := by omega
      subst e
      exact ⟨rfl, hrow.congr (fun j hj => by simp [hj]), hbel⟩
end Go.Proofs.Qxb6606044a
