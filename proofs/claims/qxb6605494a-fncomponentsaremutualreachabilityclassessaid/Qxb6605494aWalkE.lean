import Derived.Test.Qxb6605494aWalkD
namespace Go.Proofs.Qxb6605494a
open Go.RowKit
set_option linter.unusedVariables false

def gAt (gs : List (List Nat)) (i : Nat) : List Nat := (gs[i]?).getD []
def gnth (g : List Nat) (k : Nat) : Nat := g.getD k 0

theorem gAt_lt (gs : List (List Nat)) (i : Nat) (h : i < gs.length) : gAt gs i = gs[i] := by unfold gAt; rw [List.getElem?_eq_getElem h]; rfl
theorem gnth_lt (g : List Nat) (k : Nat) (h : k < g.length) : gnth g k = g[k] := by unfold gnth; rw [List.getD_eq_getElem?_getD, List.getElem?_eq_getElem h]; rfl

/-- the groups, as a slice of slices of node values -/
def GMat (lo : Nat) (w : World) (a : Option Addr) (gs : List (List Nat)) (z : Nat → Int) (ng : Nat) : Prop :=
  ∀ i, i < ng → ∃ (A : Option Addr) (c : Nat), (∃ b off, a = some ⟨b, off, none⟩ ∧ lo ≤ b ∧ w.cell? ⟨b, off + i, none⟩ = some (.slice A (gAt gs i).length c)) ∧ Row .i64 lo w A (gAt gs i).length (fun k => z (gnth (gAt gs i) k))

theorem GMat.below {lo : Nat} {w w' : World} {a : Option Addr} {gs : List (List Nat)} {z : Nat → Int} {ng : Nat} (h : GMat lo w a gs z ng) (hb : Below w.heap.size w w') : GMat lo w' a gs z ng := by
  intro i hi
  obtain ⟨A, c, ⟨b, off, e, hl, hc⟩, hr⟩ := h i hi
  exact ⟨A, c, ⟨b, off, e, hl, by rw [hb.cell (World.block_lt_of_cell? _ _ hc)]; exact hc⟩, hr.below hb⟩

/-- what has been looked at: gi groups whole, and k of the next -/
def Qd (gs : List (List Nat)) (gi k : Nat) : List Nat := (gs.take gi).flatten ++ (gAt gs gi).take k

theorem Qd_succ (gs : List (List Nat)) (gi k : Nat) (h : k < (gAt gs gi).length) : Qd gs gi (k + 1) = Qd gs gi k ++ [gnth (gAt gs gi) k] := by
  unfold Qd
  rw [List.take_succ_eq_append_getElem h, gnth_lt _ _ h, List.append_assoc]

theorem Qd_next (gs : List (List Nat)) (gi : Nat) (h : gi < gs.length) : Qd gs (gi + 1) 0 = Qd gs gi (gAt gs gi).length := by
  unfold Qd
  rw [List.take_zero, List.append_nil, List.take_length, gAt_lt gs gi h, List.take_succ_eq_append_getElem h, List.flatten_append]
  simp

theorem Qd_full (gs : List (List Nat)) (gi : Nat) (h : gs.length ≤ gi) : Qd gs gi 0 = gs.flatten := by
  unfold Qd
  rw [List.take_zero, List.append_nil, List.take_of_length_le h]

theorem Qd_fresh (gs : List (List Nat)) (gi k : Nat) (h : gi < gs.length) (hk : k < (gAt gs gi).length) (hn : gs.flatten.Nodup) : gnth (gAt gs gi) k ∉ Qd gs gi k := by
  intro hm
  have e : gs.flatten = Qd gs gi (k + 1) ++ ((gAt gs gi).drop (k + 1) ++ (gs.drop (gi + 1)).flatten) := by
    unfold Qd
    rw [List.append_assoc, ← List.append_assoc ((gAt gs gi).take (k + 1)), List.take_append_drop, gAt_lt gs gi h]
    conv => lhs; rw [← List.take_append_drop gi gs, List.flatten_append, List.drop_eq_getElem_cons h]
    rw [List.flatten_cons]
  rw [e, Qd_succ gs gi k hk] at hn
  have h1 := (List.nodup_append.1 hn).1
  have h2 := (List.nodup_append.1 h1).2.2 _ hm _ (List.mem_singleton.2 rfl)
  exact h2 rfl

theorem Qd_mem (gs : List (List Nat)) (gi k : Nat) (h : gi < gs.length) (hk : k < (gAt gs gi).length) : gnth (gAt gs gi) k ∈ gs.flatten := by
  rw [List.mem_flatten]
  refine ⟨gAt gs gi, ?_, ?_⟩
  · rw [gAt_lt gs gi h]; exact List.getElem_mem h
  · rw [gnth_lt _ _ hk]; exact List.getElem_mem hk

/-- what the row 'groupOf' holds by now -/
def Asg (gs : List (List Nat)) (n : Nat) (H : Nat → Int) (Q : List Nat) : Prop := (∀ p, p < n → p ∉ Q → H p = -1) ∧ ∀ p, p ∈ Q → ∃ i : Nat, H p = (i : Int) ∧ p ∈ gAt gs i ∧ i < gs.length

theorem Asg.step {gs : List (List Nat)} {n : Nat} {H : Nat → Int} {gi k : Nat} (h : Asg gs n H (Qd gs gi k)) (hg : gi < gs.length) (hk : k < (gAt gs gi).length) :
    Asg gs n (Tj.upd H (gnth (gAt gs gi) k) (gi : Int)) (Qd gs gi (k + 1)) := by
  rw [Qd_succ gs gi k hk]
  refine ⟨fun p hp hq => ?_, fun p hp => ?_⟩
  · have e : p ≠ gnth (gAt gs gi) k := fun e => hq (by simp [e])
    rw [Tj.upd_ne _ _ e]
    exact h.1 p hp (fun hm => hq (by simp [hm]))
  · by_cases e : p = gnth (gAt gs gi) k
    · refine ⟨gi, by rw [e, Tj.upd_same], ?_, hg⟩
      rw [e, gnth_lt _ _ hk]; exact List.getElem_mem hk
    · rw [Tj.upd_ne _ _ e]
      refine h.2 p ?_
      rcases List.mem_append.1 hp with hp | hp
      · exact hp
      · exact absurd (List.mem_singleton.1 hp) e

def GrpPost (n lo : Nat) (gs : List (List Nat)) (w : World) (e : Ending) (w' : World) : Prop :=
  ∃ (c : Nat) (G : Nat → Nat), e = .returned (.tuple #[.slice (some ⟨w.heap.size, 0, none⟩) n c, .bool true]) ∧ Row .i64 lo w' (some ⟨w.heap.size, 0, none⟩) n (fun p => (G p : Int)) ∧ (∀ p, p < n → p ∈ gAt gs (G p) ∧ G p < gs.length) ∧ Below w.heap.size w w'

set_option maxRecDepth 100000 in
set_option maxHeartbeats 8000000 in
theorem group_any (a1 a2 a3 : Option Addr) (n ng c1 c2 c3 lo : Nat) (z : Nat → Int) (o : Nat → Nat) (gs : List (List Nat)) (w : World) (hn : n ≤ 4096) (hng : Hid (ng = gs.length)) (hng2 : ng ≤ 4096)
    (h1 : Row .i64 lo w a1 n z) (h2 : Row .i64 lo w a2 n (fun i => (o i : Int))) (hf : Full o n) (hs : ∀ i j, i < j → j < n → z (o i) < z (o j)) (h3 : GMat lo w a3 gs z ng)
    (hne : ∀ i, i < ng → 0 < (gAt gs i).length) (hnd : gs.flatten.Nodup) (hb : ∀ v, v ∈ gs.flatten → v < n) (hall : ∀ v, v < n → v ∈ gs.flatten) (hlen : gs.flatten.length = n) :
    Calls Try.prog 12 #[.slice a1 n c1, .slice a2 n c2, .slice a3 ng c3] w (GrpPost n 0 gs w) := by
  have HND : Hid (gs.flatten.Nodup) := hnd
  have HB : Hid (∀ v, v ∈ gs.flatten → v < n) := hb
  have HALL : Hid (∀ v, v < n → v ∈ gs.flatten) := hall
  have HLEN : Hid (gs.flatten.length = n) := hlen
  clear hnd hb hall hlen
  have hmk := run_make_row' (P := Try.prog) 22 3 (.int .i64 0) 8 Try.underlying22 Try.info3 rfl .i64 .i64 n (by omega) (by omega)
  go_enter Try.func12, Try.ntmps12
  go_wp2
  clear hmk
  go_loopg [10] n (fun g i wr => ∃ k : Nat, k ≤ n ∧ g = n - k ∧ i = .int .i64 k ∧ wr.rowIs w.heap.size 3 n (fun i => if i < k then .int .i64 (-1) else .int .i64 0) ∧ Below w.heap.size w wr)
  case atStart => exact ⟨0, Nat.zero_le _, rfl, rfl, (World.rowIs_made w _ n 3).congr (fun j _ => by simp), (Below.refl _ _).alloc (Nat.le_refl _) _⟩
  case round =>
    obtain ⟨k, hk, rfl, rfl, hrow, hbel⟩ := hrel
    by_cases hlt : k < n
    · have c2 : wr.cell? ⟨w.heap.size, k, none⟩ = some (.int .i64 0) := by simpa using hrow.cell hlt
      have c3 : wr.frozen? ⟨w.heap.size, k, none⟩ = false := hrow.frozen k
      clear h1 h2 h3 hs hne
      go_wp2
      go_roundg (n - (k + 1))
      case measure => omega
      case rel => exact ⟨k + 1, by omega, rfl, by go_num, (hrow.set k _).congr (fun j hj => by
        by_cases e : j = k
        · subst e; simp
        · by_cases h2 : j < k
          · simp [e, h2, show j < k + 1 by omega]
          · simp [e, h2, show ¬ j < k + 1 by omega]), hbel.setCell (Nat.le_refl _) _⟩
    · obtain rfl : k = n := by omega
      have hrow0 : wr.rowIs w.heap.size 3 k (fun i => .int .i64 ((fun _ : Nat => (-1 : Int)) i)) := hrow.congr (fun j hj => by simp [hj])
      clear hrow hk hlt
      go_wp2
      go_loopg [11, 12] ng (fun g sn gi wr => ∃ (i : Nat) (H : Nat → Int), i ≤ ng ∧ g = ng - i ∧ gi = .int .i64 i ∧ sn = .int .i64 ((Qd gs i 0).length : Int) ∧ wr.rowIs w.heap.size 3 k (fun i => .int .i64 (H i)) ∧ Asg gs k H (Qd gs i 0) ∧ Below w.heap.size w wr)
      case atStart => exact ⟨0, fun _ => -1, Nat.zero_le _, rfl, rfl, rfl, hrow0, ⟨fun _ _ _ => rfl, fun p hp => by simp [Qd] at hp⟩, hbel⟩
      case round =>
        clear hrow0 hbel
        obtain ⟨i, H, hi, rfl, rfl, rfl, hrow, hA, hbel⟩ := hrel
        by_cases hlt : i < ng
        · obtain ⟨A, gc, ⟨b, off, rfl, _, hcg⟩, hrg⟩ := h3 i hlt
          have hpos := hne i hlt
          have hil : i < gs.length := by rw [← hng.out]; exact hlt
          have HIL : Hid (i < gs.length) := hil
          obtain ⟨gl, hgl⟩ : ∃ x, x = (gAt gs i).length := ⟨_, rfl⟩
          rw [← hgl] at hcg hrg hpos
          have HGL : Hid (gl = (gAt gs i).length) := hgl
          have d1 : wr.cell? ⟨b, off + i, none⟩ = some (.slice A gl gc) := by rw [hbel.cell (World.block_lt_of_cell? _ _ hcg)]; exact hcg
          have hgne : ((gl : Int) == 0) = false := beq_eq_false_iff_ne.2 (by omega)
          have hglb : gl ≤ 4096 := by
            have hsub : ((gAt gs i)).length ≤ gs.flatten.length := by
              rw [gAt_lt gs i hil]
              exact (List.sublist_flatten_of_mem (List.getElem_mem hil)).length_le
            have := HLEN.out; omega
          have hQ0 : (Qd gs i 0).length ≤ 4096 := by
            have hq := congrArg List.length (List.take_append_drop i gs ▸ List.flatten_append (L₁ := gs.take i) (L₂ := gs.drop i))
            unfold Qd
            rw [List.take_zero, List.append_nil]
            have : (gs.take i).flatten.length + (gs.drop i).flatten.length = gs.flatten.length := by
              rw [← List.length_append, ← List.flatten_append, List.take_append_drop]
            have := HLEN.out; omega
          clear hgl hil
          go_wp2
          go_loopg [11, 13, 14] gl (fun g sn kk pp wr => ∃ (x : Nat) (H : Nat → Int), x ≤ gl ∧ g = gl - x ∧ kk = .int .i64 x ∧ sn = .int .i64 ((Qd gs i x).length : Int) ∧ wr.rowIs w.heap.size 3 k (fun i => .int .i64 (H i)) ∧ Asg gs k H (Qd gs i x) ∧ Below w.heap.size w wr)
          case atStart => exact ⟨0, H, Nat.zero_le _, rfl, rfl, rfl, hrow, hA, hbel⟩
          case round =>
            clear hrow hA hbel d1 hpos
            obtain ⟨x, H, hx, rfl, rfl, rfl, hrow, hA, hbel⟩ := hrel
            have d1 : wr.cell? ⟨b, off + i, none⟩ = some (.slice A gl gc) := by rw [hbel.cell (World.block_lt_of_cell? _ _ hcg)]; exact hcg
            by_cases hlx : x < gl
            · obtain ⟨b4, off4, rfl, _, hc4⟩ := hrg x hlx
              have hlx' : x < (gAt gs i).length := by rw [← HGL.out]; exact hlx
              obtain ⟨t, ht⟩ : ∃ t, t = gnth (gAt gs i) x := ⟨_, rfl⟩
              have hc4' : w.cell? ⟨b4, off4 + x, none⟩ = some (.int .i64 (z t)) := by rw [ht]; exact hc4
              have d4 : wr.cell? ⟨b4, off4 + x, none⟩ = some (.int .i64 (z t)) := by rw [hbel.cell (World.block_lt_of_cell? _ _ hc4')]; exact hc4'
              have htn : t < k := HB.out t (by rw [ht]; exact Qd_mem gs i x HIL.out hlx')
              have hfr : t ∉ Qd gs i x := by rw [ht]; exact Qd_fresh gs i x HIL.out hlx' HND.out
              obtain ⟨j0, hj0, ej0⟩ := hf.2 t htn
              have d5 : wr.cell? ⟨w.heap.size, t, none⟩ = some (.int .i64 (-1)) := by rw [hrow.cell htn, hA.1 t htn hfr]
              have d6 : wr.frozen? ⟨w.heap.size, t, none⟩ = false := hrow.frozen t
              have HA1 : Hid (Asg gs k (Tj.upd H t (i : Int)) (Qd gs i (x + 1))) := by show Asg _ _ _ _; rw [ht]; exact hA.step HIL.out hlx'
              have hQl : (Qd gs i (x + 1)).length = (Qd gs i x).length + 1 := by rw [Qd_succ gs i x hlx', List.length_append]; rfl
              have HQ : Hid ((Qd gs i (x + 1)).length = (Qd gs i x).length + 1) := hQl
              have hQb : (Qd gs i x).length ≤ 8192 := by
                have h5 : (Qd gs i x).length ≤ (Qd gs i 0).length + x := by unfold Qd; simp; omega
                omega
              have k1 := h1.below hbel
              have k2 := h2.below hbel
              have hd : decide ((t : Int) < 0) = false := by simp
              clear hc4 hc4' hrg ht hfr hA hQl hcg h1 h2 h3 hlx'
              go_wp2_with fail
              refine (place_any a1 a2 k c1 c2 lo z o (z t) j0 _ hn k1 k2 hf.1 hs hj0 (by rw [ej0])).mono ?_
              rintro e w5 ⟨rfl, hw5⟩
              subst hw5
              rw [ej0]
              clear k1 k2 hs
              go_wp2_with fail
              go_roundg (gl - (x + 1))
              case measure => omega
              case rel =>
                refine ⟨x + 1, Tj.upd H t (i : Int), by omega, rfl, by go_num, (by rw [HQ.out]; go_num), (hrow.set t _).congr (fun j hj => ?_), HA1.out, hbel.setCell (Nat.le_refl _) _⟩
                unfold Tj.upd
                by_cases e : j = t
                · rw [if_pos e, if_pos e]
                · rw [if_neg e, if_neg e]
            · obtain rfl : x = gl := by omega
              have HQN : Hid (Qd gs (i + 1) 0 = Qd gs i x) := by show _ = _; rw [Qd_next gs i HIL.out, ← HGL.out]
              clear hrg h1 h2 h3 hs hne
              go_wp2
              go_roundg (ng - (i + 1))
              case measure => omega
              case rel => exact ⟨i + 1, H, by omega, rfl, by go_num, (by rw [HQN.out]), hrow, (by rw [HQN.out]; exact hA), hbel⟩
        · obtain rfl : i = ng := by omega
          have eQ : Qd gs i 0 = gs.flatten := Qd_full gs i (by rw [← hng.out]; exact Nat.le_refl _)
          rw [eQ] at hA ⊢
          have hQl := HLEN.out
          rw [hQl]
          have hsn : ((k : Int) == (k : Int)) = true := by simp
          have HG : Hid (∀ p, p < k → H p = (((H p).toNat : Nat) : Int) ∧ p ∈ gAt gs (H p).toNat ∧ (H p).toNat < gs.length) := by
            intro p hp
            obtain ⟨i, e, hm, hl⟩ := hA.2 p (HALL.out p hp)
            rw [e]
            exact ⟨rfl, hm, hl⟩
          clear h1 h2 h3 hs hne eQ hQl hA
          go_wp2
          go_ret2
          exact ⟨_, fun p => (H p).toNat, rfl, Row.of_rowIs (c := 0) (hrow.congr (fun j hj => by rw [← (HG.out j hj).1])) (Nat.zero_le _), fun p hp => (HG.out p hp).2, hbel⟩
end Go.Proofs.Qxb6605494a
