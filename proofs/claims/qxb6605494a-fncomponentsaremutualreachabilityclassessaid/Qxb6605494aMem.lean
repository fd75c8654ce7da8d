import Derived.Test.Qxb6605494aWalkE
namespace Go.Proofs.Qxb6605494a
open Go.RowKit
set_option linter.unusedVariables false

/-- the kit's law on append, with one thing more: the new value lies in the old block or in a new one -/
theorem run_append_fresh {P : Program} (w : World) (base : Nat) (t ty e : TypeId) (i : TypeInfo) (z : Value) (size bytes : Nat) (ht : P.underlying t = some (.slice e)) (hi : P.info? e = some i) (hz : i.zero = some z)
    (hsize : i.size = size) (hby : i.bytes = bytes) (hzs : z.cells.size = size) (hsz : 0 < size)
    (v : Value) (n : Nat) (xs : List Value) (hown : w.ownsRow base e size v n xs)
    (a : Addr) (m c : Nat) (news : List Value) (hl : news.length = m * size) (hnews : ∀ j u, news[j]? = some u → w.cell? (a.add j) = some u) (h1 : ∀ u ∈ news, u.oneCell' = true)
    (h63 : n + m ≤ maxLen) (hbytes : (n + m) * bytes ≤ 140737488355328) (hbase : base ≤ w.heap.size) (hm : 0 < m) :
    ∃ g cap w', (Builtin.append_ #[t, t] ty #[v, .slice (some a) m c]).run P w = .ok (.slice (some ⟨g, 0, none⟩) (n + m) cap) w' ∧ w'.ownsRow base e size (.slice (some ⟨g, 0, none⟩) (n + m) cap) (n + m) (xs ++ news) ∧ w.grownBy w' v.ownBlock ∧
      (v.ownBlock = some g ∨ w.heap.size ≤ g) := by
  obtain ⟨v', w', hr, h2, h3, h4⟩ := run_append_own (P := P) w base t ty e i z size bytes ht hi hz hsize hby hzs hsz v n xs hown a m c news hl hnews h1 h63 hbytes hbase
  rcases h2.2 with ⟨e0, _⟩ | ⟨g, cap, cur, rfl, hbg, hgg, hnc, hcm, hcs, htk⟩
  · exfalso; have := (h4.1 e0).2; omega
  refine ⟨g, cap, w', hr, h2, h3, ?_⟩
  rcases hown.2 with ⟨rfl, rfl⟩ | ⟨g0, cap0, cur0, rfl, hbg0, hgg0, hnc0, hcm0, hcs0, htk0⟩
  · right
    have hx : xs = [] := List.eq_nil_of_length_eq_zero (by simpa using hown.1)
    subst hx
    obtain ⟨v2, w2, hr2, k2, _, _⟩ := run_append_own (P := P) w w.heap.size t ty e i z size bytes ht hi hz hsize hby hzs hsz (.slice none 0 0) 0 [] (World.ownsRow_nil _ _ _ _) a m c news hl hnews h1 h63 hbytes (Nat.le_refl _)
    rw [hr] at hr2
    injection hr2 with e1 e2
    subst e1
    rcases k2.2 with ⟨e0, _⟩ | ⟨g', cap', cur', e0, hb', _⟩
    · cases e0
    · cases e0; exact hb'
  · subst hsize
    subst hby
    by_cases hroom : n + m ≤ cap0
    · left
      have hfit : n * i.size + news.length ≤ cur0.size := by rw [hl, hcs0, ← Nat.add_mul]; exact Nat.mul_le_mul_right _ hroom
      have hr2 := run_append_room (P := P) w t ty e i ht hi g0 n cap0 cur0 hgg0 a m c news hl hnews h1 hroom hfit
      rw [hr] at hr2
      injection hr2 with e1 e2
      cases e1
      rfl
    · right
      have hs63 : ((n + m : Nat) : Int) ≤ 9223372036854775807 := by simp only [maxLen] at h63; omega
      have holds : ∀ j u, xs[j]? = some u → w.cell? ((⟨g0, 0, none⟩ : Addr).add j) = some u := hown.cells (g := g0) rfl
      have hr2 := run_append_grow (P := P) w t ty e i z ht hi hz ⟨g0, 0, none⟩ n cap0 xs hown.1 holds a m c news hl hnews (by omega) hs63 (growslice_fits (by omega) hbytes)
      rw [hr] at hr2
      injection hr2 with e1 e2
      cases e1
      exact Nat.le_refl _

theorem wpList_append_fresh {P : Program} (w : World) {ops : Array Oper} {rest : List Oper} {o : Oper} {a : Act} {Q : Exit → Act → World → Prop} (hgd : o.guard = none) (s x : Operand) (t : TypeId)
    (ho : o.op = .call { callee := .builtin .append, args := #[s, x], argTypes := #[t, t] })
    (base : Nat) (e : TypeId) (i : TypeInfo) (z : Value) (size bytes : Nat) (ht : P.underlying t = some (.slice e)) (hi : P.info? e = some i) (hz : i.zero = some z)
    (hsize : i.size = size) (hby : i.bytes = bytes) (hzs : z.cells.size = size) (hsz : 0 < size)
    (v : Value) (n : Nat) (xs : List Value) (hs : a.eval s = v) (hown : w.ownsRow base e size v n xs)
    (ad : Addr) (m c : Nat) (news : List Value) (hx : a.eval x = .slice (some ad) m c) (hl : news.length = m * size) (hnews : ∀ j u, news[j]? = some u → w.cell? (ad.add j) = some u) (h1 : ∀ u ∈ news, u.oneCell' = true)
    (h63 : n + m ≤ maxLen) (hbytes : (n + m) * bytes ≤ 140737488355328) (hbase : base ≤ w.heap.size) (hm : 0 < m)
    (h : ∀ g cap w', w'.ownsRow base e size (.slice (some ⟨g, 0, none⟩) (n + m) cap) (n + m) (xs ++ news) → w.grownBy w' v.ownBlock → (v.ownBlock = some g ∨ w.heap.size ≤ g) → wpList P ops Q rest (a.put o.dst (.slice (some ⟨g, 0, none⟩) (n + m) cap)) w') : wpList P ops Q (o :: rest) a w := by
  refine wpList_plain hgd fun K hK => ?_
  obtain ⟨g, cap, w', hr, h2, h3, h4⟩ := run_append_fresh (P := P) w base t o.type e i z size bytes ht hi hz hsize hby hzs hsz v n xs hown ad m c news hl hnews h1 h63 hbytes hbase hm
  unfold Oper.wp execOp
  simp only [ho, resolve, invoke, builtin, Sem.run_bind, Sem.run_pure, Result.andThen_ok, List.map_toArray, List.map_cons, List.map_nil, hs, hx, hr]
  exact hK _ _ (h g cap w' h2 h3 h4)

/-! ### owned rows while other blocks are written -/
theorem own_of_block {w w' : World} {base : Nat} {e : TypeId} {size : Nat} {v : Value} {n : Nat} {xs : List Value} (h : w.ownsRow base e size v n xs) (hk : ∀ g, v.ownBlock = some g → w'.heap[g]? = w.heap[g]?) : w'.ownsRow base e size v n xs := by
  refine ⟨h.1, ?_⟩
  rcases h.2 with hn | ⟨g, cap, cur, rfl, hb, hgg, r⟩
  · exact .inl hn
  · exact .inr ⟨g, cap, cur, rfl, hb, by rw [hk g rfl]; exact hgg, r⟩

/-- rows of two element types lie apart -/
theorem own_apart {w : World} {base base' : Nat} {e e' : TypeId} {size size' : Nat} {v v' : Value} {n n' : Nat} {xs xs' : List Value} (h : w.ownsRow base e size v n xs) (h' : w.ownsRow base' e' size' v' n' xs') (hne : e ≠ e') (g : Nat) (hv : v.ownBlock = some g) : v'.ownBlock ≠ some g := by
  intro hv'
  rcases h.2 with ⟨rfl, _⟩ | ⟨g1, cap, cur, rfl, _, hgg, _⟩
  · simp [Value.ownBlock] at hv
  rcases h'.2 with ⟨rfl, _⟩ | ⟨g2, cap2, cur2, rfl, _, hgg2, _⟩
  · simp [Value.ownBlock] at hv'
  simp [Value.ownBlock] at hv hv'
  subst hv; subst hv'
  rw [hgg] at hgg2
  simp at hgg2
  exact hne hgg2.2

theorem own_lt {w : World} {base : Nat} {e : TypeId} {size : Nat} {v : Value} {n : Nat} {xs : List Value} (h : w.ownsRow base e size v n xs) {g : Nat} (hg : v.ownBlock = some g) : base ≤ g ∧ g < w.heap.size := h.lt g hg

def intC (K : List Nat) : List Value := K.map fun x : Nat => Value.int .i64 (x : Int)
def cellsC : List (Nat × Nat) → List Value
  | [] => []
  | p :: r => .int .i64 (p.1 : Int) :: .int .i64 (p.2 : Int) :: cellsC r

theorem cellsC_append (L M : List (Nat × Nat)) : cellsC (L ++ M) = cellsC L ++ cellsC M := by
  induction L with
  | nil => rfl
  | cons p r ih => simp [cellsC, ih]

theorem cellsC_length (L : List (Nat × Nat)) : (cellsC L).length = L.length * 2 := by
  induction L with
  | nil => rfl
  | cons p r ih => simp [cellsC, ih]; omega

/-! ### the memory of components: nine blocks of its own from B on (rows and boxes), then what grows -/
structure CS (B : Nat) (w wr : World) (n : Nat) (V Lo : Nat → Nat) (O : Nat → Bool) (cnt : Nat) (vS vC : Value) (K : List Nat) (C : List (Nat × Nat)) : Prop where
  bel : Below B w wr
  sz : B + 9 ≤ wr.heap.size
  dV : wr.rowIs B 3 n (fun i => .int .i64 (V i : Int))
  dL : wr.rowIs (B + 2) 3 n (fun i => .int .i64 (Lo i : Int))
  dO : wr.rowIs (B + 4) 4 n (fun i => .bool (O i))
  xV : wr.rowIs (B + 1) 22 1 (fun _ => .slice (some ⟨B, 0, none⟩) n n)
  xL : wr.rowIs (B + 3) 22 1 (fun _ => .slice (some ⟨B + 2, 0, none⟩) n n)
  xO : wr.rowIs (B + 5) 44 1 (fun _ => .slice (some ⟨B + 4, 0, none⟩) n n)
  xS : wr.rowIs (B + 6) 22 1 (fun _ => vS)
  xN : wr.rowIs (B + 7) 3 1 (fun _ => .int .i64 (cnt : Int))
  xC : wr.rowIs (B + 8) 45 1 (fun _ => vC)
  oS : wr.ownsRow (B + 9) 3 1 vS K.length (intC K)
  oC : wr.ownsRow (B + 9) 47 2 vC C.length (cellsC C)

/-- the groups that are made: the slice of them, and each in a block of its own that is not the stack's -/
def GSt (B : Nat) (wr : World) (vG vS : Value) (gs : List (List Nat)) (z : Nat → Int) : Prop :=
  ∃ vals : List Value, wr.ownsRow (B + 9) 22 1 vG gs.length vals ∧ ∀ i, i < gs.length → ∃ γ cap, vals[i]? = some (.slice (some ⟨γ, 0, none⟩) (gAt gs i).length cap) ∧
    wr.ownsRow (B + 9) 3 1 (.slice (some ⟨γ, 0, none⟩) (gAt gs i).length cap) (gAt gs i).length ((gAt gs i).map fun t => Value.int .i64 (z t)) ∧ vS.ownBlock ≠ some γ

/-- the groups stay while a block is written that is none of theirs -/
theorem GSt.kept {B : Nat} {wr w' : World} {vG vS vS' : Value} {gs : List (List Nat)} {z : Nat → Int} (h : GSt B wr vG vS gs z)
    (hG : ∀ g, vG.ownBlock = some g → w'.heap[g]? = wr.heap[g]?)
    (hk : ∀ γ, B + 9 ≤ γ → γ < wr.heap.size → vS.ownBlock ≠ some γ → (∃ cur, wr.heap[γ]? = some (.cells cur 3 (0, 0))) → w'.heap[γ]? = wr.heap[γ]? ∧ vS'.ownBlock ≠ some γ) : GSt B w' vG vS' gs z := by
  obtain ⟨vals, h1, h2⟩ := h
  refine ⟨vals, own_of_block h1 hG, fun i hi => ?_⟩
  obtain ⟨γ, cap, e1, e2, e3⟩ := h2 i hi
  obtain ⟨hb, hl⟩ := own_lt e2 (g := γ) rfl
  have hty : ∃ cur, wr.heap[γ]? = some (.cells cur 3 (0, 0)) := by
    rcases e2.2 with ⟨e, _⟩ | ⟨g', c', cur, e, _, hh, _⟩
    · cases e
    · cases e; exact ⟨cur, hh⟩
  obtain ⟨k1, k2⟩ := hk γ hb hl e3 hty
  exact ⟨γ, cap, e1, own_of_block e2 (fun g hg => by simp [Value.ownBlock] at hg; subst hg; exact k1), k2⟩

/-- a store into one of the nine blocks keeps what grows -/
theorem own_setFixed {wr : World} {B : Nat} {e : TypeId} {size : Nat} {v : Value} {n : Nat} {xs : List Value} (h : wr.ownsRow (B + 9) e size v n xs) {a : Addr} (ha : a.block < B + 9) (u : Value) : (wr.setCell a u).ownsRow (B + 9) e size v n xs := ownsRow_setCell_below h ha u

theorem GSt.setFixed {B : Nat} {wr : World} {vG vS : Value} {gs : List (List Nat)} {z : Nat → Int} (h : GSt B wr vG vS gs z) {a : Addr} (ha : a.block < B + 9) (u : Value) : GSt B (wr.setCell a u) vG vS gs z := by
  obtain ⟨vals, h1, _⟩ := id h
  refine h.kept (fun g hg => Deep.blk_setCell_other _ _ _ _ ?_) (fun γ hb hl hs _ => ⟨Deep.blk_setCell_other _ _ _ _ (by omega), hs⟩)
  have := (own_lt h1 hg).1
  omega

/-- a draw -/
theorem GSt.drewN {B : Nat} {wr : World} {vG vS : Value} {gs : List (List Nat)} {z : Nat → Int} (h : GSt B wr vG vS gs z) (k : Nat) : GSt B (wr.drewN k) vG vS gs z := h
theorem CS.drewN {B : Nat} {w wr : World} {n : Nat} {V Lo : Nat → Nat} {O : Nat → Bool} {cnt : Nat} {vS vC : Value} {K : List Nat} {C : List (Nat × Nat)} (h : CS B w wr n V Lo O cnt vS vC K C) (k : Nat) : CS B w (wr.drewN k) n V Lo O cnt vS vC K C :=
  ⟨below_drewN h.bel k, h.sz, h.dV, h.dL, h.dO, h.xV, h.xL, h.xO, h.xS, h.xN, h.xC, h.oS, h.oC⟩

theorem row_upd {wr : World} {b t n : Nat} {α : Type} {f : Nat → α} {F : α → Value} (h : wr.rowIs b t n (fun i => F (f i))) (p : Nat) (x : α) : (wr.setCell ⟨b, p, none⟩ (F x)).rowIs b t n (fun i => F (Tj.upd f p x i)) := by
  refine (h.set p (F x)).congr (fun j _ => ?_)
  unfold Tj.upd
  by_cases e : j = p
  · rw [if_pos e, if_pos e]
  · rw [if_neg e, if_neg e]

theorem row_box {wr : World} {b t : Nat} {v : Value} (h : wr.rowIs b t 1 (fun _ => v)) (u : Value) : (wr.setCell ⟨b, 0, none⟩ u).rowIs b t 1 (fun _ => u) := by
  refine (h.set 0 u).congr (fun j hj => ?_)
  rw [if_pos (by omega)]

/-- a store into a fixed block, all the rest kept -/
theorem CS.setV {B : Nat} {w wr : World} {n : Nat} {V Lo : Nat → Nat} {O : Nat → Bool} {cnt : Nat} {vS vC : Value} {K : List Nat} {C : List (Nat × Nat)} (h : CS B w wr n V Lo O cnt vS vC K C) (p x : Nat) :
    CS B w (wr.setCell ⟨B, p, none⟩ (.int .i64 (x : Int))) n (Tj.upd V p x) Lo O cnt vS vC K C :=
  ⟨h.bel.setCell (Nat.le_refl _) _, by rw [Deep.nblk_setCell]; exact h.sz, row_upd (F := fun y : Nat => Value.int .i64 (y : Int)) h.dV p x, h.dL.setOther (by show B + 2 ≠ B; omega) _, h.dO.setOther (by show B + 4 ≠ B; omega) _, h.xV.setOther (by show B + 1 ≠ B; omega) _, h.xL.setOther (by show B + 3 ≠ B; omega) _, h.xO.setOther (by show B + 5 ≠ B; omega) _, h.xS.setOther (by show B + 6 ≠ B; omega) _, h.xN.setOther (by show B + 7 ≠ B; omega) _, h.xC.setOther (by show B + 8 ≠ B; omega) _, own_setFixed h.oS (by show B < B + 9; omega) _, own_setFixed h.oC (by show B < B + 9; omega) _⟩

theorem CS.setL {B : Nat} {w wr : World} {n : Nat} {V Lo : Nat → Nat} {O : Nat → Bool} {cnt : Nat} {vS vC : Value} {K : List Nat} {C : List (Nat × Nat)} (h : CS B w wr n V Lo O cnt vS vC K C) (p x : Nat) :
    CS B w (wr.setCell ⟨B + 2, p, none⟩ (.int .i64 (x : Int))) n V (Tj.upd Lo p x) O cnt vS vC K C :=
  ⟨h.bel.setCell (by show B ≤ B + 2; omega) _, by rw [Deep.nblk_setCell]; exact h.sz, h.dV.setOther (by show B ≠ B + 2; omega) _, row_upd (F := fun y : Nat => Value.int .i64 (y : Int)) h.dL p x, h.dO.setOther (by show B + 4 ≠ B + 2; omega) _, h.xV.setOther (by show B + 1 ≠ B + 2; omega) _, h.xL.setOther (by show B + 3 ≠ B + 2; omega) _, h.xO.setOther (by show B + 5 ≠ B + 2; omega) _, h.xS.setOther (by show B + 6 ≠ B + 2; omega) _, h.xN.setOther (by show B + 7 ≠ B + 2; omega) _, h.xC.setOther (by show B + 8 ≠ B + 2; omega) _, own_setFixed h.oS (by show B + 2 < B + 9; omega) _, own_setFixed h.oC (by show B + 2 < B + 9; omega) _⟩

theorem CS.setO {B : Nat} {w wr : World} {n : Nat} {V Lo : Nat → Nat} {O : Nat → Bool} {cnt : Nat} {vS vC : Value} {K : List Nat} {C : List (Nat × Nat)} (h : CS B w wr n V Lo O cnt vS vC K C) (p : Nat) (x : Bool) :
    CS B w (wr.setCell ⟨B + 4, p, none⟩ (.bool x)) n V Lo (Tj.upd O p x) cnt vS vC K C :=
  ⟨h.bel.setCell (by show B ≤ B + 4; omega) _, by rw [Deep.nblk_setCell]; exact h.sz, h.dV.setOther (by show B ≠ B + 4; omega) _, h.dL.setOther (by show B + 2 ≠ B + 4; omega) _, row_upd (F := fun y : Bool => Value.bool y) h.dO p x, h.xV.setOther (by show B + 1 ≠ B + 4; omega) _, h.xL.setOther (by show B + 3 ≠ B + 4; omega) _, h.xO.setOther (by show B + 5 ≠ B + 4; omega) _, h.xS.setOther (by show B + 6 ≠ B + 4; omega) _, h.xN.setOther (by show B + 7 ≠ B + 4; omega) _, h.xC.setOther (by show B + 8 ≠ B + 4; omega) _, own_setFixed h.oS (by show B + 4 < B + 9; omega) _, own_setFixed h.oC (by show B + 4 < B + 9; omega) _⟩

theorem CS.setN {B : Nat} {w wr : World} {n : Nat} {V Lo : Nat → Nat} {O : Nat → Bool} {cnt : Nat} {vS vC : Value} {K : List Nat} {C : List (Nat × Nat)} (h : CS B w wr n V Lo O cnt vS vC K C) (x : Nat) :
    CS B w (wr.setCell ⟨B + 7, 0, none⟩ (.int .i64 (x : Int))) n V Lo O x vS vC K C :=
  ⟨h.bel.setCell (by show B ≤ B + 7; omega) _, by rw [Deep.nblk_setCell]; exact h.sz, h.dV.setOther (by show B ≠ B + 7; omega) _, h.dL.setOther (by show B + 2 ≠ B + 7; omega) _, h.dO.setOther (by show B + 4 ≠ B + 7; omega) _, h.xV.setOther (by show B + 1 ≠ B + 7; omega) _, h.xL.setOther (by show B + 3 ≠ B + 7; omega) _, h.xO.setOther (by show B + 5 ≠ B + 7; omega) _, h.xS.setOther (by show B + 6 ≠ B + 7; omega) _, row_box h.xN _, h.xC.setOther (by show B + 8 ≠ B + 7; omega) _, own_setFixed h.oS (by show B + 7 < B + 9; omega) _, own_setFixed h.oC (by show B + 7 < B + 9; omega) _⟩

/-- the stack's box takes a value that owns the places K' -/
theorem CS.setS {B : Nat} {w wr : World} {n : Nat} {V Lo : Nat → Nat} {O : Nat → Bool} {cnt : Nat} {vS vC vS' : Value} {K K' : List Nat} {C : List (Nat × Nat)} (h : CS B w wr n V Lo O cnt vS vC K C) (ho : wr.ownsRow (B + 9) 3 1 vS' K'.length (intC K')) :
    CS B w (wr.setCell ⟨B + 6, 0, none⟩ vS') n V Lo O cnt vS' vC K' C :=
  ⟨h.bel.setCell (by show B ≤ B + 6; omega) _, by rw [Deep.nblk_setCell]; exact h.sz, h.dV.setOther (by show B ≠ B + 6; omega) _, h.dL.setOther (by show B + 2 ≠ B + 6; omega) _, h.dO.setOther (by show B + 4 ≠ B + 6; omega) _, h.xV.setOther (by show B + 1 ≠ B + 6; omega) _, h.xL.setOther (by show B + 3 ≠ B + 6; omega) _, h.xO.setOther (by show B + 5 ≠ B + 6; omega) _, row_box h.xS _, h.xN.setOther (by show B + 7 ≠ B + 6; omega) _, h.xC.setOther (by show B + 8 ≠ B + 6; omega) _, own_setFixed ho (by show B + 6 < B + 9; omega) _, own_setFixed h.oC (by show B + 6 < B + 9; omega) _⟩

theorem CS.setC {B : Nat} {w wr : World} {n : Nat} {V Lo : Nat → Nat} {O : Nat → Bool} {cnt : Nat} {vS vC vC' : Value} {K : List Nat} {C C' : List (Nat × Nat)} (h : CS B w wr n V Lo O cnt vS vC K C) (ho : wr.ownsRow (B + 9) 47 2 vC' C'.length (cellsC C')) :
    CS B w (wr.setCell ⟨B + 8, 0, none⟩ vC') n V Lo O cnt vS vC' K C' :=
  ⟨h.bel.setCell (by show B ≤ B + 8; omega) _, by rw [Deep.nblk_setCell]; exact h.sz, h.dV.setOther (by show B ≠ B + 8; omega) _, h.dL.setOther (by show B + 2 ≠ B + 8; omega) _, h.dO.setOther (by show B + 4 ≠ B + 8; omega) _, h.xV.setOther (by show B + 1 ≠ B + 8; omega) _, h.xL.setOther (by show B + 3 ≠ B + 8; omega) _, h.xO.setOther (by show B + 5 ≠ B + 8; omega) _, h.xS.setOther (by show B + 6 ≠ B + 8; omega) _, h.xN.setOther (by show B + 7 ≠ B + 8; omega) _, row_box h.xC _, own_setFixed h.oS (by show B + 8 < B + 9; omega) _, own_setFixed ho (by show B + 8 < B + 9; omega) _⟩

/-- blocks below B + 9 and the other growing row are kept: the nine blocks stand -/
theorem CS.keep {B : Nat} {w wr w' : World} {n : Nat} {V Lo : Nat → Nat} {O : Nat → Bool} {cnt : Nat} {vS vC : Value} {K : List Nat} {C : List (Nat × Nat)} (h : CS B w wr n V Lo O cnt vS vC K C) (hb : Below (B + 9) wr w')
    (hS : w'.ownsRow (B + 9) 3 1 vS K.length (intC K)) (hC : w'.ownsRow (B + 9) 47 2 vC C.length (cellsC C)) : CS B w w' n V Lo O cnt vS vC K C :=
  ⟨h.bel.trans (hb.mono (by omega)), Nat.le_trans h.sz hb.size, h.dV.of_block (hb.block _ (by omega)), h.dL.of_block (hb.block _ (by omega)), h.dO.of_block (hb.block _ (by omega)), h.xV.of_block (hb.block _ (by omega)), h.xL.of_block (hb.block _ (by omega)), h.xO.of_block (hb.block _ (by omega)), h.xS.of_block (hb.block _ (by omega)), h.xN.of_block (hb.block _ (by omega)), h.xC.of_block (hb.block _ (by omega)), hS, hC⟩
end Go.Proofs.Qxb6605494a
