import Derived.Test.Qxb6605494aRows
import Derived.Test.Qxb6605494aTarjan
import Derived.WalkKit
import Derived.WalkSpells
import Derived.WalkLawsBesides
import Derived.Deep.LoopGhost
import Derived.Deep.OwnRows
import Derived.Deep.CutRange
import Derived.Deep.QuietTactic
import Derived.BigQuiet
namespace Go.Proofs.Qxb6605494a
open Go.RowKit
set_option linter.unusedVariables false

theorem ret_i {k : IntKind} {a b : Int} (h : a = b) : Ending.returned (.int k a) = .returned (.int k b) := by rw [h]

/-- a slice of integers: element i lies where the slice leads, in blocks from 'lo' on -/
def Row (k : IntKind) (lo : Nat) (w : World) (a : Option Addr) (n : Nat) (z : Nat → Int) : Prop :=
  ∀ i, i < n → ∃ b off, a = some ⟨b, off, none⟩ ∧ lo ≤ b ∧ w.cell? ⟨b, off + i, none⟩ = some (.int k (z i))

/-- a slice of slices of int32 -/
def Mat (lo : Nat) (w : World) (a : Option Addr) (n : Nat) (A : Nat → Option Addr) (L C : Nat → Nat) (Z : Nat → Nat → Int) : Prop :=
  ∀ i, i < n → (∃ b off, a = some ⟨b, off, none⟩ ∧ lo ≤ b ∧ w.cell? ⟨b, off + i, none⟩ = some (.slice (A i) (L i) (C i))) ∧ Row .i32 lo w (A i) (L i) (Z i)

theorem Row.below {k : IntKind} {lo : Nat} {w w' : World} {a : Option Addr} {n : Nat} {z : Nat → Int} (h : Row k lo w a n z) (hb : Below w.heap.size w w') : Row k lo w' a n z := by
  intro i hi
  obtain ⟨b, off, e, hl, hc⟩ := h i hi
  exact ⟨b, off, e, hl, by rw [hb.cell (World.block_lt_of_cell? _ _ hc)]; exact hc⟩

theorem Mat.below {lo : Nat} {w w' : World} {a : Option Addr} {n : Nat} {A : Nat → Option Addr} {L C : Nat → Nat} {Z : Nat → Nat → Int} (h : Mat lo w a n A L C Z) (hb : Below w.heap.size w w') : Mat lo w' a n A L C Z := by
  intro i hi
  obtain ⟨⟨b, off, e, hl, hc⟩, hr⟩ := h i hi
  exact ⟨⟨b, off, e, hl, by rw [hb.cell (World.block_lt_of_cell? _ _ hc)]; exact hc⟩, hr.below hb⟩

theorem Row.of_rowIs {k : IntKind} {lo : Nat} {w : World} {b t n c : Nat} {z : Nat → Int} (h : w.rowIs b t n (fun i => .int k (z i))) (hl : lo ≤ b) : Row k lo w (some ⟨b, 0, none⟩) n z :=
  fun i hi => ⟨b, 0, rfl, hl, by rw [Nat.zero_add]; exact h.cell hi⟩

theorem Try.info3 : (Try.prog.info? 3).map (fun i => (i.zero, i.size, i.bytes)) = some (some (.int .i64 0), 1, 8) := by kernel_rfl
theorem Try.info21 : (Try.prog.info? 21).map (fun i => (i.zero, i.size, i.bytes)) = some (some (.int .i32 0), 1, 4) := by kernel_rfl
theorem Try.info36 : (Try.prog.info? 36).map (fun i => (i.zero, i.size, i.bytes)) = some (some (.slice none 0 0), 1, 24) := by kernel_rfl
theorem eqnil22 (w : World) (a : Option Addr) (n c : Nat) : (binOp .eql 22 (.slice a n c) (.slice none 0 0)).run Try.prog w = .ok (.bool a.isNone) w :=
  Lib.run_eql_slice_nil w 22 3 a n c 0 0 Try.underlying22
theorem eqnil23 (w : World) (a : Option Addr) (n c : Nat) : (binOp .eql 23 (.slice a n c) (.slice none 0 0)).run Try.prog w = .ok (.bool a.isNone) w :=
  Lib.run_eql_slice_nil w 23 36 a n c 0 0 Try.underlying23

set_option maxRecDepth 100000 in
set_option maxHeartbeats 2000000 in
theorem zzBytes_any (a1 a2 : Option Addr) (n m c1 c2 lo : Nat) (A : Nat → Option Addr) (L C : Nat → Nat) (Z : Nat → Nat → Int) (w : World) (m1 : n ≤ 9223372036854775807) (m2 : m ≤ 9223372036854775807)
    (h : Mat lo w a2 m A L C Z) (hL : ∀ i, i < m → L i ≤ 9223372036854775807) :
    Calls Try.prog 4 #[.slice a1 n c1, .slice a2 m c2] w fun e w' => (∃ r : Bool, e = .returned (.bool r)) ∧ w' = w := by
  by_cases hA : n ≤ 1048576
  · by_cases hB : m ≤ 1048576
    · by_cases hC : n + m ≤ 1048576
      · go_enter Try.func4, Try.ntmps4
        go_wp2
        go_loopg [5, 6] m (fun g z i wr => w = wr ∧ ∃ k zz : Nat, k ≤ m ∧ g = m - k ∧ zz ≤ 1048576 ∧ z = .int .i64 zz ∧ i = .int .i64 k)
        case atStart => exact ⟨rfl, 0, n + m, Nat.zero_le _, rfl, hC, by go_num, rfl⟩
        case round =>
          obtain ⟨rfl, k, zz, hk, rfl, hz, rfl, rfl⟩ := hrel
          by_cases hlt : k < m
          · obtain ⟨⟨b, off, rfl, _, hc⟩, _⟩ := h k hlt
            have hl := hL k hlt
            clear h hL
            by_cases hD : L k ≤ 1048576
            · by_cases hE : zz + L k ≤ 1048576
              · go_wp2
                go_roundg (m - (k + 1))
                case measure => omega
                case rel => exact ⟨rfl, k + 1, zz + L k, by omega, rfl, hE, by go_num, by go_num⟩
              · go_wp2
                go_ret
                exact ⟨⟨false, rfl⟩, rfl⟩
            · go_wp2
              go_ret
              exact ⟨⟨false, rfl⟩, rfl⟩
          · clear h hL
            go_wp2
            go_ret
            exact ⟨⟨true, rfl⟩, rfl⟩
      · go_enter Try.func4, Try.ntmps4
        go_wp2
        go_ret
        exact ⟨⟨false, rfl⟩, rfl⟩
    · go_enter Try.func4, Try.ntmps4
      go_wp2
      go_ret
      exact ⟨⟨false, rfl⟩, rfl⟩
  · go_enter Try.func4, Try.ntmps4
    go_wp2
    go_ret
    exact ⟨⟨false, rfl⟩, rfl⟩

set_option maxRecDepth 100000 in
set_option maxHeartbeats 2000000 in
theorem small_any (a1 a2 : Option Addr) (n m c1 c2 lo : Nat) (A : Nat → Option Addr) (L C : Nat → Nat) (Z : Nat → Nat → Int) (w : World) (m1 : n ≤ 4096) (m2 : m ≤ 4096)
    (h : Mat lo w a2 m A L C Z) (hL : ∀ i, i < m → L i ≤ 9223372036854775807) :
    Calls Try.prog 5 #[.slice a1 n c1, .slice a2 m c2] w fun e w' => (∃ r : Bool, e = .returned (.bool r) ∧ (r = true → ∀ i, i < m → L i ≤ 1048576)) ∧ w' = w := by
  have d1 : decide ((4096 : Int) < (n : Int)) = false := by simp; omega
  go_enter Try.func5, Try.ntmps5
  go_wp2
  go_loopg [5, 6] m (fun g z i wr => w = wr ∧ ∃ k zz : Nat, k ≤ m ∧ g = m - k ∧ zz ≤ 1048576 ∧ z = .int .i64 zz ∧ i = .int .i64 k ∧ Hid (∀ i, i < k → L i ≤ 1048576))
  case atStart => exact ⟨rfl, 0, 8 * n + 8 * m, Nat.zero_le _, rfl, by omega, by go_num, rfl, fun i hi => absurd hi (Nat.not_lt_zero _)⟩
  case round =>
    obtain ⟨rfl, k, zz, hk, rfl, hz, rfl, rfl, H⟩ := hrel
    by_cases hlt : k < m
    · obtain ⟨⟨b, off, rfl, _, hc⟩, _⟩ := h k hlt
      have hl := hL k hlt
      clear h hL
      by_cases hD : L k ≤ 1048576
      · by_cases hE : zz + 4 * L k ≤ 1048576
        · go_wp2
          go_roundg (m - (k + 1))
          case measure => omega
          case rel => exact ⟨rfl, k + 1, zz + 4 * L k, by omega, rfl, hE, by go_num, by go_num, fun i hi => by
            by_cases e : i = k
            · subst e; exact hD
            · exact H.out i (by omega)⟩
        · go_wp2
          go_ret
          exact ⟨⟨false, rfl, (fun h => by cases h)⟩, rfl⟩
      · go_wp2
        go_ret
        exact ⟨⟨false, rfl, (fun h => by cases h)⟩, rfl⟩
    · clear h hL
      go_wp2
      go_ret
      exact ⟨⟨true, rfl, fun _ i hi => H.out i (by omega)⟩, rfl⟩

/-- what a clone of ints leaves -/
def CloneI (n lo : Nat) (z : Nat → Int) (w : World) (e : Ending) (w' : World) : Prop := ∃ a c, e = .returned (.slice a n c) ∧ Row .i64 lo w' a n z ∧ Below w.heap.size w w'

set_option maxHeartbeats 1000000 in
theorem clone_any (a : Option Addr) (n c lo : Nat) (z : Nat → Int) (w : World) (hn : n ≤ 4096) (hnil : a = none → n = 0 ∧ c = 0) (h : Row .i64 lo w a n z) :
    Calls Try.prog 7 #[.slice a n c] w (CloneI n w.heap.size z w) := by
  cases a with
  | none =>
    obtain ⟨rfl, rfl⟩ := hnil rfl
    have hq := eqnil22
    go_enter Try.func7, Try.ntmps7
    go_wp2
    go_ret
    exact ⟨none, 0, rfl, (fun i hi => absurd hi (Nat.not_lt_zero _)), Below.refl _ _⟩
  | some x =>
    have hmk := run_make_row' (P := Try.prog) 22 3 (.int .i64 0) 8 Try.underlying22 Try.info3 rfl .i64 .i64 n (by omega) (by omega)
    have hq := eqnil22
    clear hnil
    go_enter Try.func7, Try.ntmps7
    go_wp2
    clear hmk hq
    go_loopg [4] n (fun g i wr => ∃ k : Nat, k ≤ n ∧ g = n - k ∧ i = .int .i64 k ∧ wr.rowIs w.heap.size 3 n (fun i => if i < k then .int .i64 (z i) else .int .i64 0) ∧ Below w.heap.size w wr)
    case atStart => exact ⟨0, Nat.zero_le _, rfl, rfl, (World.rowIs_made w _ n 3).congr (fun j _ => by simp), (Below.refl _ _).alloc (Nat.le_refl _) _⟩
    case round =>
      obtain ⟨k, hk, rfl, rfl, hrow, hbel⟩ := hrel
      by_cases hlt : k < n
      · obtain ⟨b, off, e, _, hc⟩ := h k hlt
        simp only [Option.some.injEq] at e
        subst e
        have c1 : wr.cell? ⟨b, off + k, none⟩ = some (.int .i64 (z k)) := by rw [hbel.cell (World.block_lt_of_cell? _ _ hc)]; exact hc
        have c2 : wr.cell? ⟨w.heap.size, k, none⟩ = some (.int .i64 0) := by simpa using hrow.cell hlt
        have c3 : wr.frozen? ⟨w.heap.size, k, none⟩ = false := hrow.frozen k
        clear h hc
        go_wp2
        go_roundg (n - (k + 1))
        case measure => omega
        case rel => exact ⟨k + 1, by omega, rfl, by go_num, (hrow.set k _).congr (fun j hj => by
          by_cases e : j = k
          · subst e; simp
          · by_cases h2 : j < k
            · simp [e, h2, show j < k + 1 by omega]
            · simp [e, h2, show ¬ j < k + 1 by omega]), hbel.setCell (Nat.le_refl _) _⟩
      · clear h
        go_wp2
        go_ret
        have e : k = n := by omega
        subst e
        exact ⟨_, _, rfl, Row.of_rowIs (c := 0) (hrow.congr (fun j hj => by simp [hj])) (Nat.le_refl _), hbel⟩

set_option maxHeartbeats 2000000 in
theorem place_any (a1 a2 : Option Addr) (n c1 c2 lo : Nat) (z : Nat → Int) (o : Nat → Nat) (v : Int) (j0 : Nat) (w : World) (hn : n ≤ 4096) (h1 : Row .i64 lo w a1 n z) (h2 : Row .i64 lo w a2 n (fun i => (o i : Int)))
    (ho : ∀ i, i < n → o i < n) (hs : ∀ i j, i < j → j < n → z (o i) < z (o j)) (hj : j0 < n) (hv : z (o j0) = v) :
    Calls Try.prog 16 #[.slice a1 n c1, .slice a2 n c2, .int .i64 v] w fun e w' => e = .returned (.int .i64 (o j0 : Int)) ∧ w' = w := by
  have HV : Hid (z (o j0) = v) := hv
  clear hv
  go_enter Try.func16, Try.ntmps16
  go_wp2
  go_loopg [7, 8] n (fun g lo hi wr => w = wr ∧ ∃ l h : Nat, l ≤ j0 ∧ j0 ≤ h ∧ h ≤ n ∧ g = h - l ∧ lo = .int .i64 l ∧ hi = .int .i64 h)
  case atStart => exact ⟨rfl, 0, n, Nat.zero_le _, by omega, Nat.le_refl _, rfl, rfl, rfl⟩
  case round =>
    obtain ⟨rfl, l, h, hl, hh, hhn, rfl, rfl, rfl⟩ := hrel
    by_cases hlt : l < h
    · obtain ⟨b2, off2, rfl, _, hc2⟩ := h2 (l + (h - l) / 2) (by omega)
      have hom := ho (l + (h - l) / 2) (by omega)
      obtain ⟨om, hom'⟩ : ∃ x, x = o (l + (h - l) / 2) := ⟨_, rfl⟩
      rw [← hom'] at hom
      obtain ⟨b1, off1, rfl, _, hc1⟩ := h1 om hom
      simp only [← hom'] at hc2
      have HO : Hid (om = o (l + (h - l) / 2)) := hom'
      clear hom' h1 h2
      by_cases ht : z om < v
      · have hm : l + (h - l) / 2 < j0 := by
          by_cases e : l + (h - l) / 2 < j0
          · exact e
          · exfalso
            have h3 := HV.out
            by_cases e2 : j0 = l + (h - l) / 2
            · rw [e2, ← HO.out] at h3; omega
            · have := hs j0 (l + (h - l) / 2) (by omega) (by omega)
              rw [← HO.out] at this; omega
        clear hs ho
        go_wp2
        go_roundg (h - (l + (h - l) / 2 + 1))
        case measure => omega
        case rel => exact ⟨rfl, l + (h - l) / 2 + 1, h, by omega, hh, hhn, rfl, by go_num, rfl⟩
      · have hm : j0 ≤ l + (h - l) / 2 := by
          by_cases e : j0 ≤ l + (h - l) / 2
          · exact e
          · exfalso
            have h3 := HV.out
            have := hs (l + (h - l) / 2) j0 (by omega) (by omega)
            rw [← HO.out] at this; omega
        clear hs ho
        go_wp2
        go_roundg ((l + (h - l) / 2) - l)
        case measure => omega
        case rel => exact ⟨rfl, l, l + (h - l) / 2, hl, hm, by omega, rfl, rfl, by go_num⟩
    · obtain rfl : l = j0 := by omega
      obtain rfl : h = l := by omega
      obtain ⟨b2, off2, rfl, _, hc2⟩ := h2 h hj
      have hom := ho h hj
      obtain ⟨om, hom'⟩ : ∃ x, x = o h := ⟨_, rfl⟩
      rw [← hom'] at hom
      obtain ⟨b1, off1, rfl, _, hc1⟩ := h1 om hom
      simp only [← hom'] at hc2
      have ht : (z om == v) = true := by rw [hom', HV.out]; simp
      have HO : Hid (om = o h) := hom'
      have i1 : (h : Int) < (n : Int) := by omega
      clear hom' h1 h2 hs ho
      go_wp2
      go_ret
      exact ⟨ret_i (by rw [← HO.out]), rfl⟩
end Go.Proofs.Qxb6605494a
