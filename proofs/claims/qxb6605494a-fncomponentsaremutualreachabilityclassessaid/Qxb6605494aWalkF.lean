import Derived.Test.Qxb6605494aMem
namespace Go.Proofs.Qxb6605494a
open Go.RowKit
set_option linter.unusedVariables false

theorem Try.info47 : (Try.prog.info? 47).map (fun i => (i.zero, i.size, i.bytes)) = some (some (.agg #[.int .i64 0, .int .i64 0]), 2, 16) := by kernel_rfl
theorem Try.info22 : (Try.prog.info? 22).map (fun i => (i.zero, i.size, i.bytes)) = some (some (.slice none 0 0), 1, 24) := by kernel_rfl

theorem grown_keep {wc w' : World} {o : Obj} {v : Value} {B : Nat} (hB : B ≤ wc.heap.size) (hg : (wc.alloc o).grownBy w' v.ownBlock) (hv : ∀ k, v.ownBlock = some k → B ≤ k) :
    Below B wc w' ∧ ∀ g, g < wc.heap.size → v.ownBlock ≠ some g → w'.heap[g]? = wc.heap[g]? := by
  refine ⟨((Below.refl B wc).alloc hB o).grown hg (by simp; omega) hv, fun g hl hne => ?_⟩
  rw [hg.block g (by simp; omega) (fun e => hne e.symm)]
  exact Deep.blk_alloc_lt _ _ _ hl

theorem CS.pushS {B : Nat} {w wc w' : World} {n : Nat} {V Lo : Nat → Nat} {O : Nat → Bool} {cnt : Nat} {vS vC : Value} {K : List Nat} {C : List (Nat × Nat)} (h : CS B w wc n V Lo O cnt vS vC K C) {o : Obj} {g cap p : Nat}
    (ho : w'.ownsRow (B + 9) 3 1 (.slice (some ⟨g, 0, none⟩) (K.length + 1) cap) (K.length + 1) (intC K ++ [.int .i64 (p : Int)])) (hg : (wc.alloc o).grownBy w' vS.ownBlock) :
    CS B w (w'.setCell ⟨B + 6, 0, none⟩ (.slice (some ⟨g, 0, none⟩) (K.length + 1) cap)) n V Lo O cnt (.slice (some ⟨g, 0, none⟩) (K.length + 1) cap) vC (K ++ [p]) C := by
  obtain ⟨hb, hk⟩ := grown_keep (B := B + 9) h.sz hg (fun k hk => (own_lt h.oS hk).1)
  have hC : w'.ownsRow (B + 9) 47 2 vC C.length (cellsC C) := own_of_block h.oC (fun g' hg' => hk g' (own_lt h.oC hg').2 (own_apart h.oC h.oS (by decide) g' hg'))
  have hS : w'.ownsRow (B + 9) 3 1 (.slice (some ⟨g, 0, none⟩) (K.length + 1) cap) (K ++ [p]).length (intC (K ++ [p])) := by
    unfold intC at *; rw [List.length_append, List.map_append]; exact ho
  exact ⟨(h.bel.trans (hb.mono (by omega))).setCell (by show B ≤ B + 6; omega) _, by rw [Deep.nblk_setCell]; exact Nat.le_trans h.sz hb.size, (h.dV.of_block (hb.block _ (by omega))).setOther (by show B ≠ B + 6; omega) _, (h.dL.of_block (hb.block _ (by omega))).setOther (by show B + 2 ≠ B + 6; omega) _, (h.dO.of_block (hb.block _ (by omega))).setOther (by show B + 4 ≠ B + 6; omega) _,
    (h.xV.of_block (hb.block _ (by omega))).setOther (by show B + 1 ≠ B + 6; omega) _, (h.xL.of_block (hb.block _ (by omega))).setOther (by show B + 3 ≠ B + 6; omega) _, (h.xO.of_block (hb.block _ (by omega))).setOther (by show B + 5 ≠ B + 6; omega) _, row_box (h.xS.of_block (hb.block _ (by omega))) _, (h.xN.of_block (hb.block _ (by omega))).setOther (by show B + 7 ≠ B + 6; omega) _, (h.xC.of_block (hb.block _ (by omega))).setOther (by show B + 8 ≠ B + 6; omega) _,
    own_setFixed hS (by show B + 6 < B + 9; omega) _, own_setFixed hC (by show B + 6 < B + 9; omega) _⟩

theorem GSt.pushS {B : Nat} {w wc w' : World} {n : Nat} {V Lo : Nat → Nat} {O : Nat → Bool} {cnt : Nat} {vS vC vG : Value} {K : List Nat} {C : List (Nat × Nat)} {gs : List (List Nat)} {z : Nat → Int} (hG : GSt B wc vG vS gs z) (h : CS B w wc n V Lo O cnt vS vC K C) {o : Obj} {g cap m : Nat}
    (hg : (wc.alloc o).grownBy w' vS.ownBlock) (hf : vS.ownBlock = some g ∨ (wc.alloc o).heap.size ≤ g) (u : Value) :
    GSt B (w'.setCell ⟨B + 6, 0, none⟩ u) vG (.slice (some ⟨g, 0, none⟩) m cap) gs z := by
  obtain ⟨hb, hk⟩ := grown_keep (B := B + 9) h.sz hg (fun k hk => (own_lt h.oS hk).1)
  obtain ⟨vals, h1, _⟩ := id hG
  have key : GSt B w' vG (.slice (some ⟨g, 0, none⟩) m cap) gs z := by
    refine hG.kept (fun g' hg' => hk g' (own_lt h1 hg').2 (own_apart h1 h.oS (by decide) g' hg')) (fun γ hb' hl hs _ => ⟨hk γ hl hs, ?_⟩)
    simp only [Value.ownBlock]
    intro e
    injection e with e
    subst e
    rcases hf with hf | hf
    · exact hs hf
    · simp at hf; omega
  exact key.setFixed (by show B + 6 < B + 9; omega) _

theorem CS.pushC {B : Nat} {w wc w' : World} {n : Nat} {V Lo : Nat → Nat} {O : Nat → Bool} {cnt : Nat} {vS vC : Value} {K : List Nat} {C : List (Nat × Nat)} (h : CS B w wc n V Lo O cnt vS vC K C) {o : Obj} {g cap p k : Nat}
    (ho : w'.ownsRow (B + 9) 47 2 (.slice (some ⟨g, 0, none⟩) (C.length + 1) cap) (C.length + 1) (cellsC C ++ [.int .i64 (p : Int), .int .i64 (k : Int)])) (hg : (wc.alloc o).grownBy w' vC.ownBlock) :
    CS B w (w'.setCell ⟨B + 8, 0, none⟩ (.slice (some ⟨g, 0, none⟩) (C.length + 1) cap)) n V Lo O cnt vS (.slice (some ⟨g, 0, none⟩) (C.length + 1) cap) K (C ++ [(p, k)]) := by
  obtain ⟨hb, hk⟩ := grown_keep (B := B + 9) h.sz hg (fun k hk => (own_lt h.oC hk).1)
  have hS : w'.ownsRow (B + 9) 3 1 vS K.length (intC K) := own_of_block h.oS (fun g' hg' => hk g' (own_lt h.oS hg').2 (own_apart h.oS h.oC (by decide) g' hg'))
  have hC : w'.ownsRow (B + 9) 47 2 (.slice (some ⟨g, 0, none⟩) (C.length + 1) cap) (C ++ [(p, k)]).length (cellsC (C ++ [(p, k)])) := by
    rw [List.length_append, cellsC_append]; exact ho
  exact ⟨(h.bel.trans (hb.mono (by omega))).setCell (by show B ≤ B + 8; omega) _, by rw [Deep.nblk_setCell]; exact Nat.le_trans h.sz hb.size, (h.dV.of_block (hb.block _ (by omega))).setOther (by show B ≠ B + 8; omega) _, (h.dL.of_block (hb.block _ (by omega))).setOther (by show B + 2 ≠ B + 8; omega) _, (h.dO.of_block (hb.block _ (by omega))).setOther (by show B + 4 ≠ B + 8; omega) _,
    (h.xV.of_block (hb.block _ (by omega))).setOther (by show B + 1 ≠ B + 8; omega) _, (h.xL.of_block (hb.block _ (by omega))).setOther (by show B + 3 ≠ B + 8; omega) _, (h.xO.of_block (hb.block _ (by omega))).setOther (by show B + 5 ≠ B + 8; omega) _, (h.xS.of_block (hb.block _ (by omega))).setOther (by show B + 6 ≠ B + 8; omega) _, (h.xN.of_block (hb.block _ (by omega))).setOther (by show B + 7 ≠ B + 8; omega) _, row_box (h.xC.of_block (hb.block _ (by omega))) _,
    own_setFixed hS (by show B + 8 < B + 9; omega) _, own_setFixed hC (by show B + 8 < B + 9; omega) _⟩

theorem GSt.pushC {B : Nat} {w wc w' : World} {n : Nat} {V Lo : Nat → Nat} {O : Nat → Bool} {cnt : Nat} {vS vC vG : Value} {K : List Nat} {C : List (Nat × Nat)} {gs : List (List Nat)} {z : Nat → Int} (hG : GSt B wc vG vS gs z) (h : CS B w wc n V Lo O cnt vS vC K C) {o : Obj}
    (hg : (wc.alloc o).grownBy w' vC.ownBlock) (u : Value) :
    GSt B (w'.setCell ⟨B + 8, 0, none⟩ u) vG vS gs z := by
  obtain ⟨hb, hk⟩ := grown_keep (B := B + 9) h.sz hg (fun k hk => (own_lt h.oC hk).1)
  obtain ⟨vals, h1, _⟩ := id hG
  have key : GSt B w' vG vS gs z := by
    refine hG.kept (fun g' hg' => hk g' (own_lt h1 hg').2 (own_apart h1 h.oC (by decide) g' hg')) (fun γ hb' hl hs hty => ⟨hk γ hl ?_, hs⟩)
    intro e
    obtain ⟨cur, hcur⟩ := hty
    rcases h.oC.2 with ⟨e0, _⟩ | ⟨g1, cap1, cur1, e0, _, hh, _⟩
    · rw [e0] at e; simp [Value.ownBlock] at e
    · rw [e0] at e
      simp [Value.ownBlock] at e
      subst e
      rw [hcur] at hh
      simp at hh
  exact key.setFixed (by show B + 8 < B + 9; omega) _

/-- 'stack = append(stack, p)', up to the store -/
theorem wpList_pushS {ops : Array Oper} {rest : List Oper} {o : Oper} {a : Act} {Q : Exit → Act → World → Prop} {B : Nat} {w wc : World} {n : Nat} {V Lo : Nat → Nat} {O : Nat → Bool} {cnt : Nat} {vS vC vG : Value} {K : List Nat} {C : List (Nat × Nat)} {gs : List (List Nat)} {z : Nat → Int} {p : Nat}
    (S : CS B w wc n V Lo O cnt vS vC K C) (G : GSt B wc vG vS gs z) (hl : K.length ≤ 4096) (hgd : o.guard = none) (s y : Operand) (ho : o.op = .call { callee := .builtin .append, args := #[s, y], argTypes := #[22, 22] })
    (hs : a.eval s = vS) (hx : a.eval y = .slice (some ⟨wc.heap.size, 0, none⟩) 1 1)
    (h : ∀ g cap w', w'.cell? ⟨B + 6, 0, none⟩ = some vS → w'.frozen? ⟨B + 6, 0, none⟩ = false → CS B w (w'.setCell ⟨B + 6, 0, none⟩ (.slice (some ⟨g, 0, none⟩) (K.length + 1) cap)) n V Lo O cnt (.slice (some ⟨g, 0, none⟩) (K.length + 1) cap) vC (K ++ [p]) C →
      GSt B (w'.setCell ⟨B + 6, 0, none⟩ (.slice (some ⟨g, 0, none⟩) (K.length + 1) cap)) vG (.slice (some ⟨g, 0, none⟩) (K.length + 1) cap) gs z → wpList Try.prog ops Q rest (a.put o.dst (.slice (some ⟨g, 0, none⟩) (K.length + 1) cap)) w') :
    wpList Try.prog ops Q (o :: rest) a (wc.alloc (.cells #[.int .i64 (p : Int)] 3)) := by
  obtain ⟨i0, hi, hz0, hz1, hz2⟩ := info_parts Try.info3
  refine wpList_append_fresh _ hgd s y 22 ho (B + 9) 3 i0 _ 1 8 Try.underlying22 hi hz0 hz1 hz2 rfl (by decide) vS K.length (intC K) hs (World.ownsRow.alloc S.oS _) ⟨wc.heap.size, 0, none⟩ 1 1 [.int .i64 (p : Int)] hx rfl (cell_one_new _ _ _) (fun u hu => by simp at hu; subst hu; rfl) (by unfold maxLen; omega) (by omega) (by simp; have := S.sz; omega) (by decide) ?_
  intro g cap w' h1 h2 h3
  obtain ⟨hb, _⟩ := grown_keep (B := B + 9) S.sz h2 (fun k hk => (own_lt S.oS hk).1)
  have hx' : w'.rowIs (B + 6) 22 1 (fun _ => vS) := S.xS.of_block (hb.block _ (by omega))
  exact h g cap w' (hx'.cell (i := 0) (by omega)) (hx'.frozen 0) (S.pushS h1 h2) (G.pushS S h2 h3 _)

/-- 'calls = append(calls, call{at: p})', up to the store -/
theorem wpList_pushC {ops : Array Oper} {rest : List Oper} {o : Oper} {a : Act} {Q : Exit → Act → World → Prop} {B : Nat} {w wc : World} {n : Nat} {V Lo : Nat → Nat} {O : Nat → Bool} {cnt : Nat} {vS vC vG : Value} {K : List Nat} {C : List (Nat × Nat)} {gs : List (List Nat)} {z : Nat → Int} {p : Nat}
    (S : CS B w wc n V Lo O cnt vS vC K C) (G : GSt B wc vG vS gs z) (hl : C.length ≤ 4096) (hgd : o.guard = none) (s y : Operand) (ho : o.op = .call { callee := .builtin .append, args := #[s, y], argTypes := #[45, 45] })
    (hs : a.eval s = vC) (hx : a.eval y = .slice (some ⟨wc.heap.size, 0, none⟩) 1 1)
    (h : ∀ g cap w', w'.cell? ⟨B + 8, 0, none⟩ = some vC → w'.frozen? ⟨B + 8, 0, none⟩ = false → CS B w (w'.setCell ⟨B + 8, 0, none⟩ (.slice (some ⟨g, 0, none⟩) (C.length + 1) cap)) n V Lo O cnt vS (.slice (some ⟨g, 0, none⟩) (C.length + 1) cap) K (C ++ [(p, 0)]) →
      GSt B (w'.setCell ⟨B + 8, 0, none⟩ (.slice (some ⟨g, 0, none⟩) (C.length + 1) cap)) vG vS gs z → wpList Try.prog ops Q rest (a.put o.dst (.slice (some ⟨g, 0, none⟩) (C.length + 1) cap)) w') :
    wpList Try.prog ops Q (o :: rest) a (wc.alloc (.cells #[.int .i64 (p : Int), .int .i64 0] 47)) := by
  obtain ⟨i0, hi, hz0, hz1, hz2⟩ := info_parts Try.info47
  refine wpList_append_fresh _ hgd s y 45 ho (B + 9) 47 i0 _ 2 16 Try.underlying45 hi hz0 hz1 hz2 rfl (by decide) vC C.length (cellsC C) hs (World.ownsRow.alloc S.oC _) ⟨wc.heap.size, 0, none⟩ 1 1 [.int .i64 (p : Int), .int .i64 0] hx rfl (cell_two_new _ _ _ _) (fun u hu => by simp at hu; rcases hu with rfl | rfl <;> rfl) (by unfold maxLen; omega) (by omega) (by simp; have := S.sz; omega) (by decide) ?_
  intro g cap w' h1 h2 h3
  obtain ⟨hb, _⟩ := grown_keep (B := B + 9) S.sz h2 (fun k hk => (own_lt S.oC hk).1)
  have hx' : w'.rowIs (B + 8) 45 1 (fun _ => vC) := S.xC.of_block (hb.block _ (by omega))
  exact h g cap w' (hx'.cell (i := 0) (by omega)) (hx'.frozen 0) (S.pushC (k := 0) h1 h2) (G.pushC S h2 _)

/-- what enter leaves -/
def EnterPost (B : Nat) (w : World) (n : Nat) (V Lo : Nat → Nat) (O : Nat → Bool) (cnt : Nat) (K : List Nat) (C : List (Nat × Nat)) (p : Nat) (vG : Value) (gs : List (List Nat)) (z : Nat → Int) (e : Ending) (w' : World) : Prop :=
  e = .returned (.tuple #[]) ∧ ∃ vS vC, CS B w w' n (Tj.upd V p (cnt + 1)) (Tj.upd Lo p (cnt + 1)) (Tj.upd O p true) (cnt + 1) vS vC (K ++ [p]) (C ++ [(p, 0)]) ∧ GSt B w' vG vS gs z

set_option maxRecDepth 100000 in
set_option maxHeartbeats 8000000 in
theorem enter_any (B : Nat) (w wr : World) (n : Nat) (V Lo : Nat → Nat) (O : Nat → Bool) (cnt : Nat) (vS vC : Value) (K : List Nat) (C : List (Nat × Nat)) (p : Nat) (vG : Value) (gs : List (List Nat)) (z : Nat → Int)
    (h : CS B w wr n V Lo O cnt vS vC K C) (hG : GSt B wr vG vS gs z) (hp : p < n) (hn : n ≤ 4096) (hcnt : cnt ≤ 4096) (hK : K.length ≤ 4096) (hC : C.length ≤ 4096) :
    Calls Try.prog 17 #[.int .i64 p, .pointer (some ⟨B + 7, 0, none⟩), .pointer (some ⟨B + 1, 0, none⟩), .pointer (some ⟨B + 3, 0, none⟩), .pointer (some ⟨B + 6, 0, none⟩), .pointer (some ⟨B + 5, 0, none⟩), .pointer (some ⟨B + 8, 0, none⟩)] wr
      (EnterPost B w n V Lo O cnt K C p vG gs z) := by
  have cN := h.xN.cell (i := 0) (by omega)
  have fN := h.xN.frozen 0
  have S1 := h.setN (cnt + 1)
  have G1 := hG.setFixed (a := ⟨B + 7, 0, none⟩) (by show B + 7 < B + 9; omega) (.int .i64 ((cnt + 1 : Nat) : Int))
  have ec : ((cnt + 1 : Nat) : Int) = (cnt : Int) + 1 := by omega
  rw [ec] at S1 G1
  clear ec h hG
  go_enter Try.func17, Try.ntmps17
  go_upto_region 1 with (fail)
  generalize wr.setCell ⟨B + 7, 0, none⟩ (.int .i64 ((cnt : Int) + 1)) = W1 at S1 G1 ⊢
  clear cN fN
  have S1' : CS B w W1 n V Lo O (cnt + 1) vS vC K C := S1
  have xN := S1'.xN.cell (i := 0) (by omega)
  have xV := S1'.xV.cell (i := 0) (by omega)
  have xL := S1'.xL.cell (i := 0) (by omega)
  have dV := S1'.dV.cell (i := p) hp
  have dL := S1'.dL.cell (i := p) hp
  have fV := S1'.dV.frozen p
  have fL := S1'.dL.frozen p
  have ec : ((cnt + 1 : Nat) : Int) = (cnt : Int) + 1 := by omega
  rw [ec] at xN
  have S2 : CS B w ((W1.setCell ⟨B, p, none⟩ (.int .i64 ((cnt : Int) + 1))).setCell ⟨B + 2, p, none⟩ (.int .i64 ((cnt : Int) + 1))).drew n (Tj.upd V p (cnt + 1)) (Tj.upd Lo p (cnt + 1)) O (cnt + 1) vS vC K C := ((S1'.setV p (cnt + 1)).setL p (cnt + 1)).drewN 1
  have G2 : GSt B ((W1.setCell ⟨B, p, none⟩ (.int .i64 ((cnt : Int) + 1))).setCell ⟨B + 2, p, none⟩ (.int .i64 ((cnt : Int) + 1))).drew vG vS gs z := ((G1.setFixed (a := ⟨B, p, none⟩) (by show B < B + 9; omega) _).setFixed (a := ⟨B + 2, p, none⟩) (by show B + 2 < B + 9; omega) _).drewN 1
  clear S1 G1 S1' ec
  go_region
  generalize ((W1.setCell ⟨B, p, none⟩ (.int .i64 ((cnt : Int) + 1))).setCell ⟨B + 2, p, none⟩ (.int .i64 ((cnt : Int) + 1))).drew = W2 at S2 G2 ⊢
  clear xN xV xL dV dL fV fL
  have xS := S2.xS.cell (i := 0) (by omega)
  go_upto_region 3 with (at_builtin; refine wpList_pushS (p := p) S2 G2 hK rfl (.tmp 18) (.tmp 20) rfl rfl rfl ?_; intro g1 cap1 w1 c1 f1 S3 G3)
  generalize w1.setCell ⟨B + 6, 0, none⟩ (.slice (some ⟨g1, 0, none⟩) (K.length + 1) cap1) = W3 at S3 G3 ⊢
  clear xS c1 f1 S2 G2
  generalize Value.slice (some ⟨g1, 0, none⟩) (K.length + 1) cap1 = vS1 at S3 G3 ⊢
  have xO := S3.xO.cell (i := 0) (by omega)
  have dO := S3.dO.cell (i := p) hp
  have fO := S3.dO.frozen p
  have S4 := S3.setO p true
  have G4 := G3.setFixed (a := ⟨B + 4, p, none⟩) (by show B + 4 < B + 9; omega) (.bool true)
  clear S3 G3
  go_upto_region 4 with (fail)
  generalize W3.setCell ⟨B + 4, p, none⟩ (.bool true) = W4 at S4 G4 ⊢
  clear xO dO fO
  have xC := S4.xC.cell (i := 0) (by omega)
  go_wp2_with (at_builtin; refine wpList_pushC (p := p) S4 G4 hC rfl (.tmp 25) (.tmp 28) rfl rfl rfl ?_; intro g2 cap2 w2 c2 f2 S5 G5)
  go_end0
  exact ⟨rfl, _, _, S5, G5⟩
end Go.Proofs.Qxb6605494a
