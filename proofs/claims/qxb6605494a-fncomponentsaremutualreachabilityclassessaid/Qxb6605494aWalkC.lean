import Derived.Test.Qxb6605494aWalkB
namespace Go.Proofs.Qxb6605494a
open Go.RowKit
set_option linter.unusedVariables false

theorem neqnil36 (w : World) (a : Option Addr) (n c : Nat) : (binOp .neq 36 (.slice a n c) (.slice none 0 0)).run Try.prog w = .ok (.bool (!a.isNone)) w :=
  run_neq_slice_nil_any w 36 21 a n c 0 0 Try.underlying36

theorem Row.setOther {k : IntKind} {lo : Nat} {w : World} {a : Option Addr} {n : Nat} {z : Nat → Int} (h : Row k lo w a n z) {p : Addr} (hp : p.block < lo) (v : Value) : Row k lo (w.setCell p v) a n z := by
  intro i hi
  obtain ⟨b, off, e, hl, hc⟩ := h i hi
  refine ⟨b, off, e, hl, ?_⟩
  rw [World.cell?_of_block (w := w) (Deep.blk_setCell_other _ _ _ _ (by show b ≠ p.block; omega))]
  exact hc

theorem Row.mono {k : IntKind} {lo lo' : Nat} {w : World} {a : Option Addr} {n : Nat} {z : Nat → Int} (h : Row k lo w a n z) (hl : lo' ≤ lo) : Row k lo' w a n z := by
  intro i hi
  obtain ⟨b, off, e, h1, hc⟩ := h i hi
  exact ⟨b, off, e, by omega, hc⟩

def CloneM (m : Nat) (L : Nat → Nat) (Z : Nat → Nat → Int) (w : World) (e : Ending) (w' : World) : Prop := ∃ a c A, e = .returned (.slice a m c) ∧ Mat w.heap.size w' a m A L L Z ∧ Below w.heap.size w w'

set_option maxRecDepth 100000 in
set_option maxHeartbeats 4000000 in
theorem cloneM_any (a : Option Addr) (m c lo : Nat) (A : Nat → Option Addr) (L C : Nat → Nat) (Z : Nat → Nat → Int) (w : World) (hm : m ≤ 4096) (hnil : a = none → m = 0 ∧ c = 0) (h : Mat lo w a m A L C Z)
    (hL : ∀ i, i < m → L i ≤ 1048576) (hN : ∀ i, i < m → A i = none → L i = 0) :
    Calls Try.prog 8 #[.slice a m c] w (CloneM m L Z w) := by
  cases a with
  | none =>
    obtain ⟨rfl, rfl⟩ := hnil rfl
    have hq := eqnil23
    go_enter Try.func8, Try.ntmps8
    go_wp2
    go_ret
    exact ⟨none, 0, fun _ => none, rfl, (fun i hi => absurd hi (Nat.not_lt_zero _)), Below.refl _ _⟩
  | some x =>
    have hmk := run_make_row' (P := Try.prog) 23 36 (.slice none 0 0) 24 Try.underlying23 Try.info36 rfl .i64 .i64 m (by omega) (by omega)
    have hq := eqnil23
    clear hnil
    go_enter Try.func8, Try.ntmps8
    go_wp2
    clear hmk hq
    go_loopg [4, 5, 6] m (fun g i r k wr => ∃ (k : Nat) (A' : Nat → Option Addr), k ≤ m ∧ g = m - k ∧ i = .int .i64 k ∧ wr.rowIs w.heap.size 36 m (fun i => if i < k then .slice (A' i) (L i) (L i) else .slice none 0 0) ∧
      (∀ i, i < k → Row .i32 (w.heap.size + 1) wr (A' i) (L i) (Z i)) ∧ Below w.heap.size w wr)
    case atStart => exact ⟨0, fun _ => none, Nat.zero_le _, rfl, rfl, (World.rowIs_made w _ m 36).congr (fun j _ => by simp), (fun i hi => absurd hi (Nat.not_lt_zero _)), (Below.refl _ _).alloc (Nat.le_refl _) _⟩
    case round =>
      obtain ⟨k, A', hk, rfl, rfl, hrow, hR, hbel⟩ := hrel
      by_cases hlt : k < m
      · obtain ⟨⟨b, off, e, _, hc⟩, hr⟩ := h k hlt
        simp only [Option.some.injEq] at e
        subst e
        have d1 : wr.cell? ⟨b, off + k, none⟩ = some (.slice (A k) (L k) (C k)) := by rw [hbel.cell (World.block_lt_of_cell? _ _ hc)]; exact hc
        have hl := hL k hlt
        have hn := hN k hlt
        have hrow2 := hr.below (hbel)
        have hBz := hrow.lt
        have hq := neqnil36
        clear h hL hN hc hr
        cases hA : A k with
        | none =>
          rw [hA] at d1
          have hl0 : L k = 0 := hn hA
          have HL0 : Hid (L k = 0) := hl0
          clear hn hl0 hrow2 hA
          go_wp2
          go_roundg (m - (k + 1))
          case measure => omega
          case rel =>
            refine ⟨k + 1, fun i => if i = k then none else A' i, by omega, rfl, by go_num, hrow.congr (fun j hj => ?_), (fun i hi => ?_), hbel⟩
            · by_cases e : j = k
              · subst e; simp [HL0.out]
              · by_cases h2 : j < k
                · simp [e, h2, show j < k + 1 by omega]
                · simp [h2, show ¬ j < k + 1 by omega]
            · by_cases e : i = k
              · subst e; rw [HL0.out]; exact fun i hi => absurd hi (Nat.not_lt_zero _)
              · simp only [e, if_false]; exact hR i (by omega)
        | some y =>
          rw [hA] at d1 hrow2
          have hmk := run_make_row' (P := Try.prog) 36 21 (.int .i32 0) 4 Try.underlying36 Try.info21 rfl .i64 .i64 (L k) (by omega) (by omega)
          clear hn hA
          go_wp2
          clear hmk hq
          obtain ⟨W0, hW0⟩ : ∃ W, W = wr := ⟨_, rfl⟩
          subst hW0
          go_loopg [6] (L k) (fun g i wi => ∃ x : Nat, x ≤ L k ∧ g = L k - x ∧ i = .int .i64 x ∧ wi.rowIs W0.heap.size 21 (L k) (fun i => if i < x then .int .i32 (Z k i) else .int .i32 0) ∧ Below W0.heap.size W0 wi ∧ W0.heap.size < wi.heap.size)
          case atStart => exact ⟨0, Nat.zero_le _, rfl, rfl, (World.rowIs_made W0 _ (L k) 21).congr (fun j _ => by simp), (Below.refl _ _).alloc (Nat.le_refl _) _, by simp⟩
          case round =>
            obtain ⟨x, hx, rfl, rfl, hri, hbi, hsi⟩ := hrel
            have d2 : wr.cell? ⟨b, off + k, none⟩ = some (.slice (some y) (L k) (C k)) := by rw [hbi.cell (World.block_lt_of_cell? _ _ d1)]; exact d1
            by_cases hlx : x < L k
            · obtain ⟨b2, off2, e2, _, hc2⟩ := hrow2 x hlx
              simp only [Option.some.injEq] at e2
              subst e2
              have d3 : wr.cell? ⟨b2, off2 + x, none⟩ = some (.int .i32 (Z k x)) := by rw [hbi.cell (World.block_lt_of_cell? _ _ hc2)]; exact hc2
              have c2 : wr.cell? ⟨W0.heap.size, x, none⟩ = some (.int .i32 0) := by simpa using hri.cell hlx
              have c3 : wr.frozen? ⟨W0.heap.size, x, none⟩ = false := hri.frozen x
              clear hrow2 hc2 hrow hR d1
              go_wp2
              go_roundg (L k - (x + 1))
              case measure => omega
              case rel => exact ⟨x + 1, by omega, rfl, by go_num, (hri.set x _).congr (fun j hj => by
                by_cases e : j = x
                · subst e; simp
                · by_cases h2 : j < x
                  · simp [e, h2, show j < x + 1 by omega]
                  · simp [e, h2, show ¬ j < x + 1 by omega]), hbi.setCell (Nat.le_refl _) _, by simpa [Deep.nblk_setCell] using hsi⟩
            · obtain rfl : x = L k := by omega
              have hrowB : wr.rowIs w.heap.size 36 m (fun i => if i < k then .slice (A' i) (L i) (L i) else .slice none 0 0) := hrow.of_block (hbi.block _ hBz)
              have c2 : wr.cell? ⟨w.heap.size, k, none⟩ = some (.slice none 0 0) := by simpa using hrowB.cell hlt
              have c3 : wr.frozen? ⟨w.heap.size, k, none⟩ = false := hrowB.frozen k
              have hb2 := hbel.trans (hbi.mono hbel.size)
              have hfull : Row .i32 (w.heap.size + 1) wr (some ⟨W0.heap.size, 0, none⟩) (L k) (Z k) := Row.of_rowIs (c := 0) (hri.congr (fun j hj => by simp [hj])) (by omega)
              clear hrow2 d1 hri hrow
              go_wp2
              go_roundg (m - (k + 1))
              case measure => omega
              case rel =>
                refine ⟨k + 1, fun i => if i = k then some ⟨W0.heap.size, 0, none⟩ else A' i, by omega, rfl, by go_num, (hrowB.set k _).congr (fun j hj => ?_), (fun i hi => ?_), hb2.setCell (Nat.le_refl _) _⟩
                · by_cases e : j = k
                  · subst e; simp
                  · by_cases h2 : j < k
                    · simp [e, h2, show j < k + 1 by omega]
                    · simp [e, h2, show ¬ j < k + 1 by omega]
                · by_cases e : i = k
                  · subst e; simp only [if_true]; exact hfull.setOther (by show w.heap.size < _; omega) _
                  · simp only [e, if_false]; exact ((hR i (by omega)).below hbi).setOther (by show w.heap.size < _; omega) _
      · obtain rfl : k = m := by omega
        clear h hL hN
        go_wp2
        go_ret
        exact ⟨_, _, A', rfl, (fun i hi => ⟨⟨w.heap.size, 0, rfl, Nat.le_refl _, (by rw [Nat.zero_add, hrow.cell hi, if_pos hi])⟩, (hR i hi).mono (by omega)⟩), hbel⟩
end Go.Proofs.Qxb6605494a
