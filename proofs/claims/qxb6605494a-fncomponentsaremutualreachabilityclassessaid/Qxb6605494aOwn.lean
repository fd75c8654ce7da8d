import Derived.Test.Qxb6605494aWalkF
import Derived.Test.Qxb6605494aSteps
namespace Go.Proofs.Qxb6605494a
open Go.RowKit
set_option linter.unusedVariables false

theorem Try.info4 : (Try.prog.info? 4).map (fun i => (i.zero, i.size, i.bytes)) = some (some (.bool false), 1, 1) := by kernel_rfl

/-- the value of an owned row is a slice of that length -/
theorem own_slice {w : World} {base : Nat} {e : TypeId} {size : Nat} {v : Value} {n : Nat} {xs : List Value} (h : w.ownsRow base e size v n xs) : ∃ a cap, v = .slice a n cap := by
  rcases h.2 with ⟨e, rfl⟩ | ⟨g, cap, cur, e, _⟩
  · exact ⟨_, _, e⟩
  · exact ⟨_, _, e⟩

theorem own_slice1 {w : World} {base : Nat} {e : TypeId} {size : Nat} {v : Value} {n : Nat} {xs : List Value} (h : w.ownsRow base e size v (n + 1) xs) : ∃ g cap, v = .slice (some ⟨g, 0, none⟩) (n + 1) cap ∧ n + 1 ≤ cap ∧ base ≤ g ∧ cap ≤ maxLen := by
  rcases h.2 with ⟨_, e⟩ | ⟨g, cap, cur, e, hb, _, hc, hm, _⟩
  · omega
  · exact ⟨_, _, e, hc, hb, hm⟩

/-! ### the beginning -/
def W0 (w : World) (n : Nat) : World :=
  (((((((((w.alloc (.cells (madeCells #[.int .i64 0] n) 3)).alloc (.cells #[.slice (some ⟨w.heap.size, 0, none⟩) n n] 22)).alloc (.cells (madeCells #[.int .i64 0] n) 3)).alloc (.cells #[.slice (some ⟨w.heap.size + 2, 0, none⟩) n n] 22)).alloc
    (.cells (madeCells #[.bool false] n) 4)).alloc (.cells #[.slice (some ⟨w.heap.size + 4, 0, none⟩) n n] 44)).alloc (.cells #[.slice none 0 0] 22)).alloc (.cells #[.int .i64 0] 3)).alloc (.cells #[.slice none 0 0] 45))

theorem row_one (w : World) (v : Value) (t : TypeId) : (w.alloc (.cells #[v] t)).rowIs w.heap.size t 1 (fun _ => v) :=
  World.rowIs_alloc w #[v] t (fun _ => v) (fun i hi => by
    have : i = 0 := by simp at hi; omega
    subst this; rfl)

theorem row_at {w : World} {b b' : Nat} {t : TypeId} {n : Nat} {f : Nat → Value} (h : w.rowIs b t n f) (e : b = b') : w.rowIs b' t n f := e ▸ h

theorem CS.init (w : World) (n : Nat) : CS w.heap.size w (W0 w n) n (fun _ => 0) (fun _ => 0) (fun _ => false) 0 (.slice none 0 0) (.slice none 0 0) [] [] := by
  unfold W0
  generalize eA : w.alloc (.cells (madeCells #[.int .i64 0] n) 3) = A
  have rA : A.rowIs w.heap.size 3 n (fun _ => .int .i64 0) := eA ▸ World.rowIs_made w _ n 3
  have sA : A.heap.size = w.heap.size + 1 := by rw [← eA]; simp
  have bA : Below w.heap.size w A := eA ▸ (Below.refl _ w).alloc (Nat.le_refl _) _
  generalize eB : A.alloc (.cells #[.slice (some ⟨w.heap.size, 0, none⟩) n n] 22) = B
  have rB := row_at (eB ▸ row_one A (.slice (some ⟨w.heap.size, 0, none⟩) n n) 22 : B.rowIs _ _ _ _) sA
  have rA : B.rowIs w.heap.size 3 n (fun _ => .int .i64 0) := eB ▸ rA.alloc _
  have sB : B.heap.size = w.heap.size + 2 := by rw [← eB]; simp; omega
  have bB : Below w.heap.size w B := eB ▸ bA.alloc (by omega) _
  generalize eC : B.alloc (.cells (madeCells #[.int .i64 0] n) 3) = C
  have rC := row_at (eC ▸ World.rowIs_made B (.int .i64 0) n 3 : C.rowIs _ _ _ _) sB
  have rA : C.rowIs w.heap.size 3 n (fun _ => .int .i64 0) := eC ▸ rA.alloc _
  have rB : C.rowIs (w.heap.size + 1) 22 1 (fun _ => .slice (some ⟨w.heap.size, 0, none⟩) n n) := eC ▸ rB.alloc _
  have sC : C.heap.size = w.heap.size + 3 := by rw [← eC]; simp; omega
  have bC : Below w.heap.size w C := eC ▸ bB.alloc (by omega) _
  generalize eD : C.alloc (.cells #[.slice (some ⟨w.heap.size + 2, 0, none⟩) n n] 22) = D
  have rD := row_at (eD ▸ row_one C (.slice (some ⟨w.heap.size + 2, 0, none⟩) n n) 22 : D.rowIs _ _ _ _) sC
  have rA : D.rowIs w.heap.size 3 n (fun _ => .int .i64 0) := eD ▸ rA.alloc _
  have rB : D.rowIs (w.heap.size + 1) 22 1 (fun _ => .slice (some ⟨w.heap.size, 0, none⟩) n n) := eD ▸ rB.alloc _
  have rC : D.rowIs (w.heap.size + 2) 3 n (fun _ => .int .i64 0) := eD ▸ rC.alloc _
  have sD : D.heap.size = w.heap.size + 4 := by rw [← eD]; simp; omega
  have bD : Below w.heap.size w D := eD ▸ bC.alloc (by omega) _
  generalize eE : D.alloc (.cells (madeCells #[.bool false] n) 4) = E
  have rE := row_at (eE ▸ World.rowIs_made D (.bool false) n 4 : E.rowIs _ _ _ _) sD
  have rA : E.rowIs w.heap.size 3 n (fun _ => .int .i64 0) := eE ▸ rA.alloc _
  have rB : E.rowIs (w.heap.size + 1) 22 1 (fun _ => .slice (some ⟨w.heap.size, 0, none⟩) n n) := eE ▸ rB.alloc _
  have rC : E.rowIs (w.heap.size + 2) 3 n (fun _ => .int .i64 0) := eE ▸ rC.alloc _
  have rD : E.rowIs (w.heap.size + 3) 22 1 (fun _ => .slice (some ⟨w.heap.size + 2, 0, none⟩) n n) := eE ▸ rD.alloc _
  have sE : E.heap.size = w.heap.size + 5 := by rw [← eE]; simp; omega
  have bE : Below w.heap.size w E := eE ▸ bD.alloc (by omega) _
  generalize eF : E.alloc (.cells #[.slice (some ⟨w.heap.size + 4, 0, none⟩) n n] 44) = F
  have rF := row_at (eF ▸ row_one E (.slice (some ⟨w.heap.size + 4, 0, none⟩) n n) 44 : F.rowIs _ _ _ _) sE
  have rA : F.rowIs w.heap.size 3 n (fun _ => .int .i64 0) := eF ▸ rA.alloc _
  have rB : F.rowIs (w.heap.size + 1) 22 1 (fun _ => .slice (some ⟨w.heap.size, 0, none⟩) n n) := eF ▸ rB.alloc _
  have rC : F.rowIs (w.heap.size + 2) 3 n (fun _ => .int .i64 0) := eF ▸ rC.alloc _
  have rD : F.rowIs (w.heap.size + 3) 22 1 (fun _ => .slice (some ⟨w.heap.size + 2, 0, none⟩) n n) := eF ▸ rD.alloc _
  have rE : F.rowIs (w.heap.size + 4) 4 n (fun _ => .bool false) := eF ▸ rE.alloc _
  have sF : F.heap.size = w.heap.size + 6 := by rw [← eF]; simp; omega
  have bF : Below w.heap.size w F := eF ▸ bE.alloc (by omega) _
  generalize eG : F.alloc (.cells #[.slice none 0 0] 22) = G
  have rG := row_at (eG ▸ row_one F (.slice none 0 0) 22 : G.rowIs _ _ _ _) sF
  have rA : G.rowIs w.heap.size 3 n (fun _ => .int .i64 0) := eG ▸ rA.alloc _
  have rB : G.rowIs (w.heap.size + 1) 22 1 (fun _ => .slice (some ⟨w.heap.size, 0, none⟩) n n) := eG ▸ rB.alloc _
  have rC : G.rowIs (w.heap.size + 2) 3 n (fun _ => .int .i64 0) := eG ▸ rC.alloc _
  have rD : G.rowIs (w.heap.size + 3) 22 1 (fun _ => .slice (some ⟨w.heap.size + 2, 0, none⟩) n n) := eG ▸ rD.alloc _
  have rE : G.rowIs (w.heap.size + 4) 4 n (fun _ => .bool false) := eG ▸ rE.alloc _
  have rF : G.rowIs (w.heap.size + 5) 44 1 (fun _ => .slice (some ⟨w.heap.size + 4, 0, none⟩) n n) := eG ▸ rF.alloc _
  have sG : G.heap.size = w.heap.size + 7 := by rw [← eG]; simp; omega
  have bG : Below w.heap.size w G := eG ▸ bF.alloc (by omega) _
  generalize eH : G.alloc (.cells #[.int .i64 0] 3) = H
  have rH := row_at (eH ▸ row_one G (.int .i64 0) 3 : H.rowIs _ _ _ _) sG
  have rA : H.rowIs w.heap.size 3 n (fun _ => .int .i64 0) := eH ▸ rA.alloc _
  have rB : H.rowIs (w.heap.size + 1) 22 1 (fun _ => .slice (some ⟨w.heap.size, 0, none⟩) n n) := eH ▸ rB.alloc _
  have rC : H.rowIs (w.heap.size + 2) 3 n (fun _ => .int .i64 0) := eH ▸ rC.alloc _
  have rD : H.rowIs (w.heap.size + 3) 22 1 (fun _ => .slice (some ⟨w.heap.size + 2, 0, none⟩) n n) := eH ▸ rD.alloc _
  have rE : H.rowIs (w.heap.size + 4) 4 n (fun _ => .bool false) := eH ▸ rE.alloc _
  have rF : H.rowIs (w.heap.size + 5) 44 1 (fun _ => .slice (some ⟨w.heap.size + 4, 0, none⟩) n n) := eH ▸ rF.alloc _
  have rG : H.rowIs (w.heap.size + 6) 22 1 (fun _ => .slice none 0 0) := eH ▸ rG.alloc _
  have sH : H.heap.size = w.heap.size + 8 := by rw [← eH]; simp; omega
  have bH : Below w.heap.size w H := eH ▸ bG.alloc (by omega) _
  have rI := row_at (row_one H (.slice none 0 0) 45) sH
  exact ⟨bH.alloc (by omega) _, by simp; omega, rA.alloc _, rC.alloc _, rE.alloc _, rB.alloc _, rD.alloc _, rF.alloc _, rG.alloc _, rH.alloc _, rI, World.ownsRow_nil _ _ _ _, World.ownsRow_nil _ _ _ _⟩

theorem GSt.init (B : Nat) (w : World) (vS : Value) (z : Nat → Int) : GSt B w (.slice none 0 0) vS [] z :=
  ⟨[], World.ownsRow_nil _ _ _ _, fun i hi => absurd hi (Nat.not_lt_zero _)⟩

/-! ### a step of the top frame: 'c.next++' -/
theorem CS.incC {B : Nat} {w wr : World} {n : Nat} {V Lo : Nat → Nat} {O : Nat → Bool} {cnt : Nat} {vS : Value} {K : List Nat} {C : List (Nat × Nat)} {g m cap p k : Nat}
    (h : CS B w wr n V Lo O cnt vS (.slice (some ⟨g, 0, none⟩) (m + 1) cap) K (C ++ [(p, k)])) (hm : m = C.length) :
    CS B w (wr.setCell ⟨g, m * 2 + 1, none⟩ (.int .i64 ((k + 1 : Nat) : Int))) n V Lo O cnt vS (.slice (some ⟨g, 0, none⟩) (m + 1) cap) K (C ++ [(p, k + 1)]) := by
  subst hm
  have hC := h.oC
  rw [List.length_append] at hC
  have hb9 : B + 9 ≤ g := (own_lt hC (g := g) rfl).1
  have hb : Below (B + 9) wr (wr.setCell ⟨g, C.length * 2 + 1, none⟩ (.int .i64 ((k + 1 : Nat) : Int))) := (Below.refl _ _).setCell hb9 _
  have hS : (wr.setCell ⟨g, C.length * 2 + 1, none⟩ (.int .i64 ((k + 1 : Nat) : Int))).ownsRow (B + 9) 3 1 vS K.length (intC K) := own_of_block h.oS (fun g' hg' => Deep.blk_setCell_other _ _ _ _ (fun e => own_apart h.oS h.oC (by decide) g' hg' (by rw [e]; rfl)))
  have h2 := (World.ownsRow.stored hC (C.length * 2 + 1) (.int .i64 ((k + 1 : Nat) : Int))).1
  have e2 : (cellsC (C ++ [(p, k)])).set (C.length * 2 + 1) (.int .i64 ((k + 1 : Nat) : Int)) = cellsC (C ++ [(p, k + 1)]) := by
    rw [cellsC_append, cellsC_append, List.set_append, if_neg (by rw [cellsC_length]; omega), cellsC_length, show C.length * 2 + 1 - C.length * 2 = 1 from by omega]
    rfl
  rw [e2] at h2
  have h3 : (wr.setCell ⟨g, C.length * 2 + 1, none⟩ (.int .i64 ((k + 1 : Nat) : Int))).ownsRow (B + 9) 47 2 (.slice (some ⟨g, 0, none⟩) (C.length + 1) cap) (C ++ [(p, k + 1)]).length (cellsC (C ++ [(p, k + 1)])) := by
    rw [List.length_append]; exact h2
  exact ⟨h.bel.trans (hb.mono (by omega)), Nat.le_trans h.sz hb.size, h.dV.of_block (hb.block _ (by omega)), h.dL.of_block (hb.block _ (by omega)), h.dO.of_block (hb.block _ (by omega)), h.xV.of_block (hb.block _ (by omega)), h.xL.of_block (hb.block _ (by omega)), h.xO.of_block (hb.block _ (by omega)), h.xS.of_block (hb.block _ (by omega)), h.xN.of_block (hb.block _ (by omega)), h.xC.of_block (hb.block _ (by omega)), hS, h3⟩

theorem GSt.incC {B : Nat} {w wr : World} {n : Nat} {V Lo : Nat → Nat} {O : Nat → Bool} {cnt : Nat} {vS vG : Value} {K : List Nat} {C : List (Nat × Nat)} {g m cap j : Nat} {gs : List (List Nat)} {z : Nat → Int} (hG : GSt B wr vG vS gs z)
    (h : CS B w wr n V Lo O cnt vS (.slice (some ⟨g, 0, none⟩) m cap) K C) (u : Value) : GSt B (wr.setCell ⟨g, j, none⟩ u) vG vS gs z := by
  obtain ⟨vals, h1, _⟩ := id hG
  refine hG.kept (fun g' hg' => Deep.blk_setCell_other _ _ _ _ (fun e => own_apart h1 h.oC (by decide) g' hg' (by rw [e]; rfl))) (fun γ hb' hl hs hty => ⟨Deep.blk_setCell_other _ _ _ _ (fun e => ?_), hs⟩)
  obtain ⟨cur, hcur⟩ := hty
  rcases h.oC.2 with ⟨e0, _⟩ | ⟨g1, cap1, cur1, e0, _, hh, _⟩
  · cases e0
  · cases e0
    have e' : γ = g := e
    rw [e', hh] at hcur
    simp at hcur

/-- the top frame's two cells -/
theorem CS.topC {B : Nat} {w wr : World} {n : Nat} {V Lo : Nat → Nat} {O : Nat → Bool} {cnt : Nat} {vS : Value} {K : List Nat} {C : List (Nat × Nat)} {g m cap p k : Nat}
    (h : CS B w wr n V Lo O cnt vS (.slice (some ⟨g, 0, none⟩) (m + 1) cap) K (C ++ [(p, k)])) (hm : m = C.length) :
    wr.cell? ⟨g, m * 2, none⟩ = some (.int .i64 (p : Int)) ∧ wr.cell? ⟨g, m * 2 + 1, none⟩ = some (.int .i64 (k : Int)) ∧ wr.frozen? ⟨g, m * 2 + 1, none⟩ = false := by
  subst hm
  have hC := h.oC
  rw [List.length_append] at hC
  have hl := cellsC_length C
  refine ⟨?_, ?_, World.ownsRow.frozenAt hC _⟩
  · rw [World.ownsRow.cellAt hC _ (by omega), cellsC_append, List.getElem?_append_right (by omega), hl, Nat.sub_self]; rfl
  · rw [World.ownsRow.cellAt hC _ (by omega), cellsC_append, List.getElem?_append_right (by omega), hl, show C.length * 2 + 1 - C.length * 2 = 1 from by omega]; rfl

/-- 'calls = calls[:len(calls)-1]' -/
theorem CS.popC {B : Nat} {w wr : World} {n : Nat} {V Lo : Nat → Nat} {O : Nat → Bool} {cnt : Nat} {vS : Value} {K : List Nat} {C : List (Nat × Nat)} {g m cap p k : Nat}
    (h : CS B w wr n V Lo O cnt vS (.slice (some ⟨g, 0, none⟩) (m + 1) cap) K (C ++ [(p, k)])) (hm : m = C.length) :
    CS B w (wr.setCell ⟨B + 8, 0, none⟩ (.slice (some ⟨g, 0, none⟩) m cap)) n V Lo O cnt vS (.slice (some ⟨g, 0, none⟩) m cap) K C := by
  subst hm
  have hC := h.oC
  rw [List.length_append, cellsC_append] at hC
  exact h.setC (ownsRow_pop (cellsC_length C) hC)

/-- 'stack = stack[:len(stack)-1]' -/
theorem CS.popS {B : Nat} {w wr : World} {n : Nat} {V Lo : Nat → Nat} {O : Nat → Bool} {cnt : Nat} {vC : Value} {K : List Nat} {C : List (Nat × Nat)} {g m cap p : Nat}
    (h : CS B w wr n V Lo O cnt (.slice (some ⟨g, 0, none⟩) (m + 1) cap) vC (K ++ [p]) C) (hm : m = K.length) :
    CS B w (wr.setCell ⟨B + 6, 0, none⟩ (.slice (some ⟨g, 0, none⟩) m cap)) n V Lo O cnt (.slice (some ⟨g, 0, none⟩) m cap) vC K C := by
  subst hm
  have hS := h.oS
  unfold intC at hS
  rw [List.length_append, List.map_append] at hS
  exact h.setS (ownsRow_pop (by simp [intC]) hS)

theorem CS.topS {B : Nat} {w wr : World} {n : Nat} {V Lo : Nat → Nat} {O : Nat → Bool} {cnt : Nat} {vC : Value} {K : List Nat} {C : List (Nat × Nat)} {g m cap p : Nat}
    (h : CS B w wr n V Lo O cnt (.slice (some ⟨g, 0, none⟩) (m + 1) cap) vC (K ++ [p]) C) (hm : m = K.length) :
    wr.cell? ⟨g, m, none⟩ = some (.int .i64 (p : Int)) := by
  subst hm
  have hS := h.oS
  unfold intC at hS
  rw [List.length_append, List.map_append] at hS
  rw [World.ownsRow.cellAt hS _ (by omega), List.getElem?_append_right (by simp)]
  simp

/-! ### the group that is being made -/
def GCur (B : Nat) (wr : World) (vG vS : Value) (gs : List (List Nat)) (z : Nat → Int) (v : Value) (L : List Nat) : Prop :=
  (∃ vals : List Value, wr.ownsRow (B + 9) 22 1 vG gs.length vals ∧ ∀ i, i < gs.length → ∃ γ cap, vals[i]? = some (.slice (some ⟨γ, 0, none⟩) (gAt gs i).length cap) ∧
    wr.ownsRow (B + 9) 3 1 (.slice (some ⟨γ, 0, none⟩) (gAt gs i).length cap) (gAt gs i).length ((gAt gs i).map fun t => Value.int .i64 (z t)) ∧ vS.ownBlock ≠ some γ ∧ v.ownBlock ≠ some γ) ∧
  wr.ownsRow (B + 9) 3 1 v L.length (L.map fun t => Value.int .i64 (z t)) ∧ ∀ γ, v.ownBlock = some γ → vS.ownBlock ≠ some γ

theorem GSt.begin {B : Nat} {wr : World} {vG vS : Value} {gs : List (List Nat)} {z : Nat → Int} (h : GSt B wr vG vS gs z) : GCur B wr vG vS gs z (.slice none 0 0) [] := by
  obtain ⟨vals, h1, h2⟩ := h
  refine ⟨⟨vals, h1, fun i hi => ?_⟩, World.ownsRow_nil _ _ _ _, fun γ hγ => by simp [Value.ownBlock] at hγ⟩
  obtain ⟨γ, cap, e1, e2, e3⟩ := h2 i hi
  exact ⟨γ, cap, e1, e2, e3, by simp [Value.ownBlock]⟩

theorem GCur.st {B : Nat} {wr : World} {vG vS v : Value} {gs : List (List Nat)} {z : Nat → Int} {L : List Nat} (h : GCur B wr vG vS gs z v L) : GSt B wr vG vS gs z := by
  obtain ⟨⟨vals, h1, h2⟩, _⟩ := h
  refine ⟨vals, h1, fun i hi => ?_⟩
  obtain ⟨γ, cap, e1, e2, e3, _⟩ := h2 i hi
  exact ⟨γ, cap, e1, e2, e3⟩

theorem GCur.kept {B : Nat} {wr w' : World} {vG vS vS' v v' : Value} {gs : List (List Nat)} {z : Nat → Int} {L L' : List Nat} (h : GCur B wr vG vS gs z v L)
    (hG : ∀ g, vG.ownBlock = some g → w'.heap[g]? = wr.heap[g]?)
    (hk : ∀ γ, B + 9 ≤ γ → γ < wr.heap.size → vS.ownBlock ≠ some γ → v.ownBlock ≠ some γ → w'.heap[γ]? = wr.heap[γ]? ∧ vS'.ownBlock ≠ some γ ∧ v'.ownBlock ≠ some γ)
    (ho : w'.ownsRow (B + 9) 3 1 v' L'.length (L'.map fun t => Value.int .i64 (z t))) (ha : ∀ γ, v'.ownBlock = some γ → vS'.ownBlock ≠ some γ) : GCur B w' vG vS' gs z v' L' := by
  obtain ⟨⟨vals, h1, h2⟩, _⟩ := h
  refine ⟨⟨vals, own_of_block h1 hG, fun i hi => ?_⟩, ho, ha⟩
  obtain ⟨γ, cap, e1, e2, e3, e4⟩ := h2 i hi
  obtain ⟨hb, hl⟩ := own_lt e2 (g := γ) rfl
  obtain ⟨k1, k2, k3⟩ := hk γ hb hl e3 e4
  exact ⟨γ, cap, e1, own_of_block e2 (fun g hg => by simp [Value.ownBlock] at hg; subst hg; exact k1), k2, k3⟩

theorem GCur.setFixed {B : Nat} {wr : World} {vG vS vS' v : Value} {gs : List (List Nat)} {z : Nat → Int} {L : List Nat} (h : GCur B wr vG vS gs z v L) {a : Addr} (ha : a.block < B + 9) (u : Value) (hs : vS'.ownBlock = vS.ownBlock) : GCur B (wr.setCell a u) vG vS' gs z v L := by
  obtain ⟨⟨vals, h1, _⟩, h3, h4⟩ := id h
  refine h.kept (fun g hg => Deep.blk_setCell_other _ _ _ _ ?_) (fun γ hb hl h5 h6 => ⟨Deep.blk_setCell_other _ _ _ _ (by omega), by rw [hs]; exact h5, h6⟩) (own_setFixed h3 ha u) (fun γ hγ => by rw [hs]; exact h4 γ hγ)
  have := (own_lt h1 hg).1
  omega

/-- 'group = append(group, g.nodes[t])' -/
theorem wpList_pushG {ops : Array Oper} {rest : List Oper} {o : Oper} {a : Act} {Q : Exit → Act → World → Prop} {B : Nat} {w wc : World} {n : Nat} {V Lo : Nat → Nat} {O : Nat → Bool} {cnt : Nat} {vS vC vG v : Value} {K L : List Nat} {C : List (Nat × Nat)} {gs : List (List Nat)} {z : Nat → Int} {t : Nat}
    (S : CS B w wc n V Lo O cnt vS vC K C) (G : GCur B wc vG vS gs z v L) (hl : L.length ≤ 4096) (hgd : o.guard = none) (s y : Operand) (ho : o.op = .call { callee := .builtin .append, args := #[s, y], argTypes := #[22, 22] })
    (hs : a.eval s = v) (hx : a.eval y = .slice (some ⟨wc.heap.size, 0, none⟩) 1 1)
    (h : ∀ g cap w', CS B w w' n V Lo O cnt vS vC K C → GCur B w' vG vS gs z (.slice (some ⟨g, 0, none⟩) (L.length + 1) cap) (L ++ [t]) → wpList Try.prog ops Q rest (a.put o.dst (.slice (some ⟨g, 0, none⟩) (L.length + 1) cap)) w') :
    wpList Try.prog ops Q (o :: rest) a (wc.alloc (.cells #[.int .i64 (z t)] 3)) := by
  obtain ⟨i0, hi, hz0, hz1, hz2⟩ := info_parts Try.info3
  obtain ⟨⟨vals, g1, _⟩, g3, g4⟩ := id G
  refine wpList_append_fresh _ hgd s y 22 ho (B + 9) 3 i0 _ 1 8 Try.underlying22 hi hz0 hz1 hz2 rfl (by decide) v L.length (L.map fun t => Value.int .i64 (z t)) hs (World.ownsRow.alloc g3 _) ⟨wc.heap.size, 0, none⟩ 1 1 [.int .i64 (z t)] hx rfl (cell_one_new _ _ _) (fun u hu => by simp at hu; subst hu; rfl) (by unfold maxLen; omega) (by omega) (by simp; have := S.sz; omega) (by decide) ?_
  intro g cap w' h1 h2 h3
  obtain ⟨hb, hk⟩ := grown_keep (B := B + 9) S.sz h2 (fun k hk => (own_lt g3 hk).1)
  have hSz := S.sz
  have hS : w'.ownsRow (B + 9) 3 1 vS K.length (intC K) := own_of_block S.oS (fun g' hg' => hk g' (own_lt S.oS hg').2 (fun e => g4 g' e hg'))
  have hC : w'.ownsRow (B + 9) 47 2 vC C.length (cellsC C) := own_of_block S.oC (fun g' hg' => hk g' (own_lt S.oC hg').2 (own_apart S.oC g3 (by decide) g' hg'))
  have hnew : ∀ γ, γ < wc.heap.size → v.ownBlock ≠ some γ → g ≠ γ := by
    intro γ hγ hv e
    subst e
    rcases h3 with h3 | h3
    · exact hv h3
    · simp at h3; omega
  refine h g cap w' (S.keep hb hS hC) (G.kept (fun g' hg' => hk g' (own_lt g1 hg').2 (own_apart g1 g3 (by decide) g' hg')) (fun γ hb' hl' h5 h6 => ⟨hk γ hl' h6, h5, ?_⟩) ?_ ?_)
  · simp only [Value.ownBlock]
    intro e
    injection e with e
    exact hnew γ hl' h6 e
  · rw [List.length_append, List.map_append]; exact h1
  · intro γ hγ hS'
    simp only [Value.ownBlock] at hγ
    injection hγ with hγ
    subst hγ
    have := (own_lt S.oS hS').2
    refine hnew g this (fun e => g4 g e hS') rfl

theorem gAt_left (gs : List (List Nat)) (L : List Nat) {i : Nat} (h : i < gs.length) : gAt (gs ++ [L]) i = gAt gs i := by unfold gAt; rw [List.getElem?_append_left h]
theorem gAt_last (gs : List (List Nat)) (L : List Nat) : gAt (gs ++ [L]) gs.length = L := by unfold gAt; rw [List.getElem?_append_right (Nat.le_refl _), Nat.sub_self]; rfl

/-- 'groups = append(groups, group)' -/
theorem wpList_pushGs {ops : Array Oper} {rest : List Oper} {o : Oper} {a : Act} {Q : Exit → Act → World → Prop} {B : Nat} {w wc : World} {n : Nat} {V Lo : Nat → Nat} {O : Nat → Bool} {cnt : Nat} {vS vC vG : Value} {K L : List Nat} {C : List (Nat × Nat)} {gs : List (List Nat)} {z : Nat → Int} {γ m cap0 : Nat}
    (S : CS B w wc n V Lo O cnt vS vC K C) (G : GCur B wc vG vS gs z (.slice (some ⟨γ, 0, none⟩) m cap0) L) (hm : m = L.length) (hl : gs.length ≤ 4096) (hgd : o.guard = none) (s y : Operand) (ho : o.op = .call { callee := .builtin .append, args := #[s, y], argTypes := #[27, 27] })
    (hs : a.eval s = vG) (hx : a.eval y = .slice (some ⟨wc.heap.size, 0, none⟩) 1 1)
    (h : ∀ vG' w', CS B w w' n V Lo O cnt vS vC K C → GSt B w' vG' vS (gs ++ [L]) z → wpList Try.prog ops Q rest (a.put o.dst vG') w') :
    wpList Try.prog ops Q (o :: rest) a (wc.alloc (.cells #[.slice (some ⟨γ, 0, none⟩) m cap0] 22)) := by
  subst hm
  obtain ⟨i0, hi, hz0, hz1, hz2⟩ := info_parts Try.info22
  obtain ⟨⟨vals, g1, g2⟩, g3, g4⟩ := id G
  refine wpList_append_fresh _ hgd s y 27 ho (B + 9) 22 i0 _ 1 24 Try.underlying27 hi hz0 hz1 hz2 rfl (by decide) vG gs.length vals hs (World.ownsRow.alloc g1 _) ⟨wc.heap.size, 0, none⟩ 1 1 [.slice (some ⟨γ, 0, none⟩) L.length cap0] hx rfl (cell_one_new _ _ _) (fun u hu => by simp at hu; subst hu; rfl) (by unfold maxLen; omega) (by omega) (by simp; have := S.sz; omega) (by decide) ?_
  intro g cap w' h1 h2 h3
  obtain ⟨hb, hk⟩ := grown_keep (B := B + 9) S.sz h2 (fun k hk => (own_lt g1 hk).1)
  have hS : w'.ownsRow (B + 9) 3 1 vS K.length (intC K) := own_of_block S.oS (fun g' hg' => hk g' (own_lt S.oS hg').2 (own_apart S.oS g1 (by decide) g' hg'))
  have hC : w'.ownsRow (B + 9) 47 2 vC C.length (cellsC C) := own_of_block S.oC (fun g' hg' => hk g' (own_lt S.oC hg').2 (own_apart S.oC g1 (by decide) g' hg'))
  have hvl : vals.length = gs.length := by have := g1.1; omega
  refine h _ w' (S.keep hb hS hC) ⟨vals ++ [.slice (some ⟨γ, 0, none⟩) L.length cap0], by rw [List.length_append]; exact h1, fun i hi' => ?_⟩
  by_cases e : i < gs.length
  · obtain ⟨γ', cap', e1, e2, e3, e4⟩ := g2 i e
    rw [gAt_left gs L e]
    exact ⟨γ', cap', by rw [List.getElem?_append_left (by omega)]; exact e1, own_of_block e2 (fun g' hg' => hk g' (own_lt e2 hg').2 (own_apart e2 g1 (by decide) g' hg')), e3⟩
  · have e' : i = gs.length := by rw [List.length_append, List.length_singleton] at hi'; omega
    subst e'
    rw [gAt_last]
    refine ⟨γ, cap0, by rw [List.getElem?_append_right (by omega), hvl, Nat.sub_self]; rfl, own_of_block g3 (fun g' hg' => hk g' (own_lt g3 hg').2 (own_apart g3 g1 (by decide) g' hg')), g4 γ rfl⟩
end Go.Proofs.Qxb6605494a
