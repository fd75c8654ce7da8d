import Derived.Test.Qxb6605494aOwn
namespace Go.Proofs.Qxb6605494a
open Go.RowKit
set_option linter.unusedVariables false

def CompPost (n lo : Nat) (s : Nat → List Nat) (z : Nat → Int) (w : World) (e : Ending) (w' : World) : Prop :=
  ∃ (gs : List (List Nat)) (a : Option Addr) (c : Nat), e = .returned (.slice a gs.length c) ∧ Tj.Fin s n gs ∧ GMat lo w' a gs z gs.length ∧ Below w.heap.size w w'

def OL (w : World) (n : Nat) (s : Nat → List Nat) (z : Nat → Int) (g : Nat) (vg v : Value) (wr : World) : Prop :=
  ∃ (r : Nat) (V Lo : Nat → Nat) (O : Nat → Bool) (cnt : Nat) (vS vC : Value) (gs : List (List Nat)) (M : Nat), r ≤ n ∧ g = n - r ∧ v = .int .i64 r ∧ CS w.heap.size w wr n V Lo O cnt vS vC [] [] ∧ GSt w.heap.size wr vg vS gs z ∧ Tj.TS s n r M V Lo O cnt [] gs

def IL (w : World) (n r : Nat) (s : Nat → List Nat) (z : Nat → Int) (g : Nat) (vg : Value) (wr : World) : Prop :=
  ∃ (V Lo : Nat → Nat) (O : Nat → Bool) (cnt : Nat) (vS vC : Value) (fs : List Tj.Fr) (gs : List (List Nat)), CS w.heap.size w wr n V Lo O cnt vS vC (Tj.stk fs) (Tj.cls fs) ∧ GSt w.heap.size wr vg vS gs z ∧ Tj.TS s n r g V Lo O cnt fs gs

/-- while a group is taken off the stack: r1 is still there, r2 is taken -/
def PL (w : World) (n : Nat) (V Lo : Nat → Nat) (cnt : Nat) (vC : Value) (S0 : List Nat) (C0 : List (Nat × Nat)) (p : Nat) (rest : List Nat) (vG : Value) (gs : List (List Nat)) (z : Nat → Int) (g : Nat) (v : Value) (wr : World) : Prop :=
  ∃ (O : Nat → Bool) (vS : Value) (r1 r2 : List Nat), rest = r1 ++ r2 ∧ g = r1.length ∧ CS w.heap.size w wr n V Lo O cnt vS vC (S0 ++ p :: r1) C0 ∧ GCur w.heap.size wr vG vS gs z v r2.reverse ∧ ∀ u, O u = decide (u ∈ S0 ++ p :: r1)

set_option maxRecDepth 100000 in
set_option maxHeartbeats 8000000 in
theorem comp_any (w : World) (gb n c1 c2 lo : Nat) (a1 a2 : Option Addr) (A : Nat → Option Addr) (L C : Nat → Nat) (Z : Nat → Nat → Int) (z : Nat → Int) (hn : n ≤ 4096) (hlo : lo ≤ w.heap.size)
    (hN : w.cell? ⟨gb, 1, none⟩ = some (.slice a1 n c1)) (hG : w.cell? ⟨gb, 2, none⟩ = some (.slice a2 n c2)) (h1 : Row .i64 lo w a1 n z) (h2 : Mat lo w a2 n A L C Z)
    (hL : ∀ i, i < n → L i ≤ 1048576) (hZ : ∀ p, p < n → ∀ k, k < L p → 0 ≤ Z p k ∧ Z p k < n) :
    Calls Try.prog 15 #[.pointer (some ⟨gb, 0, none⟩)] w (CompPost n lo (sOf L Z) z w) := by
  have hmk := run_make_row' (P := Try.prog) 22 3 (.int .i64 0) 8 Try.underlying22 Try.info3 rfl .i64 .i64 n (by omega) (by omega)
  have hmk2 := run_make_row' (P := Try.prog) 44 4 (.bool false) 1 Try.underlying44 Try.info4 rfl .i64 .i64 n (by omega) (by omega)
  have hgl : gb < w.heap.size := World.block_lt_of_cell? _ _ hN
  go_enter Try.func15, Try.ntmps15
  go_upto_region 10 with (fail)
  simp only [Nat.add_assoc, Nat.reduceAdd]
  have S0 := CS.init w n
  have G0 : GSt w.heap.size (W0 w n) (.slice none 0 0) (.slice none 0 0) [] z := GSt.init _ _ _ _
  unfold W0 at S0 G0
  generalize (((((((((w.alloc (.cells (madeCells #[.int .i64 0] n) 3)).alloc (.cells #[.slice (some ⟨w.heap.size, 0, none⟩) n n] 22)).alloc (.cells (madeCells #[.int .i64 0] n) 3)).alloc (.cells #[.slice (some ⟨w.heap.size + 2, 0, none⟩) n n] 22)).alloc
    (.cells (madeCells #[.bool false] n) 4)).alloc (.cells #[.slice (some ⟨w.heap.size + 4, 0, none⟩) n n] 44)).alloc (.cells #[.slice none 0 0] 22)).alloc (.cells #[.int .i64 0] 3)).alloc (.cells #[.slice none 0 0] 45)) = wA at S0 G0 ⊢
  clear hmk hmk2
  go_wp2
  go_loopg [8, 32] n (fun g vg v wr => OL w n (sOf L Z) z g vg v wr)
  case atStart => exact ⟨0, _, _, _, 0, _, _, [], _, Nat.zero_le _, rfl, rfl, S0, G0, Tj.TS.init _ n _ _ (fun _ => rfl)⟩
  case round =>
    clear S0 G0
    obtain ⟨r, V, Lo, O, cnt, vS, vC, gs, M, hr, rfl, rfl, S, G, T⟩ := hrel
    by_cases hlt : r < n
    · have xV := S.xV.cell (i := 0) (by omega)
      have dV := S.dV.cell (i := r) hlt
      obtain ⟨vr, hvr⟩ : ∃ x, x = V r := ⟨_, rfl⟩
      rw [← hvr] at dV
      by_cases h0 : vr = 0
      · have hV0 : Hid (V r = 0) := by show _ = _; omega
        subst h0
        clear hvr
        obtain ⟨M1, T1⟩ := T.start hlt hV0.out
        have hb := T.bounds
        have E := enter_any w.heap.size w wr n V Lo O cnt vS vC [] [] r u8 gs z S G hlt hn (by omega) (by simp) (by simp)
        clear S G T hb
        go_upto_region 15 with (go_at_call 17; refine E.mono ?_; rintro e w1 ⟨rfl, vS1, vC1, S1, G1⟩)
        clear E xV dV hlo
        go_loopg [8] M1 (fun g vg wr => IL w n (r + 1) (sOf L Z) z g vg wr)
        case atStart => exact ⟨_, _, _, _, _, _, _, gs, S1, G1, T1⟩
        case round =>
          clear S1 G1 T1
          clear vS1 vC1 M1 hV0 V Lo O cnt vS vC gs M
          obtain ⟨V, Lo, O, cnt, vS, vC, fs, gs, S, G, T⟩ := hrel
          cases fs with
          | nil =>
            obtain ⟨aC, capC, rfl⟩ := own_slice S.oC
            have xC := S.xC.cell (i := 0) (by omega)
            have e0 : (Tj.cls []).length = 0 := rfl
            rw [e0] at xC
            go_wp2
            go_roundg (n - (r + 1))
            case measure => omega
            case rel => exact ⟨r + 1, V, Lo, O, cnt, vS, _, gs, _, by omega, rfl, by go_num, S, G, T⟩
          | cons f fs =>
            obtain ⟨p, k, rest⟩ := f
            obtain ⟨m, hm⟩ : ∃ m, m = (Tj.cls fs).length := ⟨_, rfl⟩
            have S' : CS w.heap.size w wr n V Lo O cnt vS vC (Tj.stk (⟨p, k, rest⟩ :: fs)) (Tj.cls fs ++ [(p, k)]) := S
            clear S
            have hoC := S'.oC
            rw [List.length_append, ← hm] at hoC
            obtain ⟨gC, capC, rfl, hcap, hgC, hcm⟩ := own_slice1 (n := m) hoC
            clear hoC
            obtain ⟨tp, tk, tf⟩ := S'.topC hm
            have xC := S'.xC.cell (i := 0) (by omega)
            have hp : p < n := T.stk_lt p ((Tj.mem_stk_cons _ _ _).2 (.inr (.inl rfl)))
            have hmb : m + 1 ≤ n := by have := T.bounds.2.2.1; simp only [Tj.cls, List.length_append, List.length_singleton] at this; omega
            have gc2 : wr.cell? ⟨gb, 2, none⟩ = some (.slice a2 n c2) := by rw [S'.bel.cell hgl]; exact hG
            obtain ⟨⟨b2, o2, rfl, _, hrp⟩, hrow⟩ := (h2.below S'.bel) p hp
            have hLp := hL p hp
            by_cases hk : k < L p
            · obtain ⟨b3, o3, hA, _, hc3⟩ := hrow k hk
              rw [hA] at hrp
              obtain ⟨t, ht⟩ : ∃ t : Nat, Z p k = (t : Int) := ⟨(Z p k).toNat, by have := hZ p hp k hk; omega⟩
              have htn : t < n := by have := hZ p hp k hk; omega
              rw [ht] at hc3
              have hst : Hid ((sOf L Z p)[k]? = some t) := by show _ = _; rw [sOf_get L Z p k hk, ht]; rfl
              have S2 : ∀ j, CS w.heap.size w ((wr.drewN j).setCell ⟨gC, m * 2 + 1, none⟩ (.int .i64 ((k : Int) + 1))) n V Lo O cnt vS (.slice (some ⟨gC, 0, none⟩) (m + 1) capC) (Tj.stk (⟨p, k + 1, rest⟩ :: fs)) (Tj.cls (⟨p, k + 1, rest⟩ :: fs)) := fun j => (S'.drewN j).incC hm
              have G2 : ∀ j, GSt w.heap.size ((wr.drewN j).setCell ⟨gC, m * 2 + 1, none⟩ (.int .i64 ((k : Int) + 1))) u8 vS gs z := fun j => (G.drewN j).incC (S'.drewN j) _
              clear S' G hm hA ht hrow hgC
              go_upto_region 18 with (fail)
              go_quiet (fail)
              revert nq
              intro nq1
              go_upto_region 19 with (fail)
              go_quiet (fail)
              go_upto_region 21 with (fail)
              have S3 := S2 (nq1 + nq)
              have G3 := G2 (nq1 + nq)
              clear S2 G2
              generalize (wr.drewN (nq1 + nq)).setCell ⟨gC, m * 2 + 1, none⟩ (.int .i64 ((k : Int) + 1)) = W2 at S3 G3 ⊢
              clear tp tk tf xC gc2 hrp hc3
              have xV := S3.xV.cell (i := 0) (by omega)
              have dV := S3.dV.cell (i := t) htn
              have hb := T.bounds
              have hvt := T.Vle t
              obtain ⟨vt, hvr⟩ : ∃ x, x = V t := ⟨_, rfl⟩
              rw [← hvr] at dV hvt
              by_cases h0 : vt = 0
              · have hV0 : Hid (V t = 0) := by show _ = _; omega
                subst h0
                clear hvr
                obtain ⟨M1, hM1, T1⟩ := T.enter hst.out htn hV0.out
                have E := enter_any w.heap.size w W2 n V Lo O cnt vS _ _ _ t u8 gs z S3 G3 htn hn (by omega) (by have := hb.2.1; exact Nat.le_trans this hn) (by simp only [Tj.cls, List.length_append, List.length_singleton] at hb ⊢; omega)
                clear S3 G3 T hb
                go_wp2_with (go_at_call 17; refine E.mono ?_; rintro e w1 ⟨rfl, vS1, vC1, S1, G1⟩)
                go_roundg M1
                case measure => exact hM1
                case rel => exact ⟨_, _, _, _, vS1, vC1, _, gs, S1, G1, T1⟩
              · have d0 : ((vt : Int) == 0) = false := by simp; omega
                have xO := S3.xO.cell (i := 0) (by omega)
                have dO := S3.dO.cell (i := t) htn
                obtain ⟨ot, hot⟩ : ∃ x, x = O t := ⟨_, rfl⟩
                rw [← hot] at dO
                have hVn : V t ≠ 0 := by omega
                cases ot with
                | false =>
                  obtain ⟨M1, hM1, T1⟩ := T.skip hst.out hVn hot.symm
                  clear T hb hot hvr hVn
                  go_wp2
                  go_roundg M1
                  case measure => exact hM1
                  case rel => exact ⟨_, _, _, _, vS, _, _, gs, S3, G3, T1⟩
                | true =>
                  obtain ⟨M1, hM1, T1⟩ := T.back hst.out hVn hot.symm
                  have xL := S3.xL.cell (i := 0) (by omega)
                  have dL := S3.dL.cell (i := p) hp
                  have fL := S3.dL.frozen p
                  have hlp := T.Lo_le
                  obtain ⟨lp, hlp'⟩ : ∃ x, x = Lo p := ⟨_, rfl⟩
                  rw [← hlp'] at dL hlp T1
                  rw [← hvr] at T1
                  clear T hb hot hvr hVn hlp'
                  have em : ((min lp vt : Nat) : Int) = if vt < lp then (vt : Int) else (lp : Int) := by split <;> omega
                  have S4 : CS w.heap.size w (W2.setCell ⟨w.heap.size + 2, p, none⟩ (.int .i64 (if vt < lp then (vt : Int) else (lp : Int)))).drew n V (Tj.upd Lo p (min lp vt)) O cnt vS (.slice (some ⟨gC, 0, none⟩) (m + 1) capC) (Tj.stk (⟨p, k + 1, rest⟩ :: fs)) (Tj.cls (⟨p, k + 1, rest⟩ :: fs)) := by
                    rw [← em]; exact (S3.setL p (min lp vt)).drewN 1
                  have G4 : GSt w.heap.size (W2.setCell ⟨w.heap.size + 2, p, none⟩ (.int .i64 (if vt < lp then (vt : Int) else (lp : Int)))).drew u8 vS gs z := (G3.setFixed (a := ⟨w.heap.size + 2, p, none⟩) (by show w.heap.size + 2 < w.heap.size + 9; omega) _).drewN 1
                  clear S3 G3 em
                  go_upto_region 24 with (fail)
                  go_region
                  generalize (if vt < lp then (vt : Int) else (lp : Int)) = mv at S4 G4 ⊢
                  generalize (W2.setCell ⟨w.heap.size + 2, p, none⟩ (.int .i64 mv)).drew = W3 at S4 G4 ⊢
                  clear xL dL fL
                  go_wp2
                  go_roundg M1
                  case measure => exact hM1
                  case rel => exact ⟨_, _, _, _, vS, _, _, gs, S4, G4, T1⟩
            · have hk2 : L p ≤ k := by omega
              have hks : Hid ((sOf L Z p).length ≤ k) := by show _ ≤ _; rw [sOf_len]; exact hk2
              have S2 : ∀ j, CS w.heap.size w ((wr.drewN j).setCell ⟨w.heap.size + 8, 0, none⟩ (.slice (some ⟨gC, 0, none⟩) m capC)) n V Lo O cnt vS (.slice (some ⟨gC, 0, none⟩) m capC) (Tj.stk (⟨p, k, rest⟩ :: fs)) (Tj.cls fs) := fun j => (S'.drewN j).popC hm
              have G2 : ∀ j, GSt w.heap.size ((wr.drewN j).setCell ⟨w.heap.size + 8, 0, none⟩ (.slice (some ⟨gC, 0, none⟩) m capC)) u8 vS gs z := fun j => (G.drewN j).setFixed (a := ⟨w.heap.size + 8, 0, none⟩) (by show w.heap.size + 8 < w.heap.size + 9; omega) _
              have xCf := S'.xC.frozen 0
              have HM : Hid (m = (Tj.cls fs).length) := hm
              clear S' G hm hrow hgC
              go_upto_region 18 with (fail)
              go_quiet (fail)
              go_upto_if 122 with (fail)
              have S3 := S2 nq
              have G3 := G2 nq
              clear S2 G2
              generalize (wr.drewN nq).setCell ⟨w.heap.size + 8, 0, none⟩ (.slice (some ⟨gC, 0, none⟩) m capC) = W2 at S3 G3 ⊢
              clear tp tk tf xC gc2 hrp xCf
              go_cut [13, 16] from 43 to 141 (fun v13 v16 wc => CS w.heap.size w wc n V (Tj.loU Lo fs p) O cnt vS (.slice (some ⟨gC, 0, none⟩) m capC) (Tj.stk (⟨p, k, rest⟩ :: fs)) (Tj.cls fs) ∧ GSt w.heap.size wc u8 vS gs z)
              case first =>
                cases fs with
                | nil =>
                  have hm0 : ¬ ((0 : Int) < (m : Int)) := by have := HM.out; simp [Tj.cls] at this; omega
                  go_wp2
                  go_meet
                  case rel => exact ⟨S3, G3⟩
                | cons f fs =>
                  obtain ⟨q, kq, restq⟩ := f
                  obtain ⟨m2, HM2⟩ : ∃ x, x = (Tj.cls fs).length := ⟨_, rfl⟩
                  obtain rfl : m = m2 + 1 := by have := HM.out; simp only [Tj.cls, List.length_append, List.length_singleton] at this; omega
                  have S3' : CS w.heap.size w W2 n V Lo O cnt vS (.slice (some ⟨gC, 0, none⟩) (m2 + 1) capC) (Tj.stk (⟨p, k, rest⟩ :: ⟨q, kq, restq⟩ :: fs)) (Tj.cls fs ++ [(q, kq)]) := S3
                  obtain ⟨tp, tk, tf⟩ := S3'.topC HM2
                  have xC := S3.xC.cell (i := 0) (by omega)
                  have hq : q < n := T.stk_lt q ((Tj.mem_stk_cons _ _ _).2 (.inl ((Tj.mem_stk_cons _ _ _).2 (.inr (.inl rfl)))))
                  have xL := S3.xL.cell (i := 0) (by omega)
                  have dLp := S3.dL.cell (i := p) hp
                  have dLq := S3.dL.cell (i := q) hq
                  have fL := S3.dL.frozen q
                  obtain ⟨lp, hlp⟩ : ∃ x, x = Lo p := ⟨_, rfl⟩
                  obtain ⟨lq, hlq⟩ : ∃ x, x = Lo q := ⟨_, rfl⟩
                  rw [← hlp] at dLp
                  rw [← hlq] at dLq
                  have em : ((min (Lo q) (Lo p) : Nat) : Int) = if lp < lq then (lp : Int) else (lq : Int) := by split <;> omega
                  have S4 : CS w.heap.size w (W2.setCell ⟨w.heap.size + 2, q, none⟩ (.int .i64 (if lp < lq then (lp : Int) else (lq : Int)))).drew n V (Tj.loU Lo (⟨q, kq, restq⟩ :: fs) p) O cnt vS (.slice (some ⟨gC, 0, none⟩) (m2 + 1) capC) (Tj.stk (⟨p, k, rest⟩ :: ⟨q, kq, restq⟩ :: fs)) (Tj.cls (⟨q, kq, restq⟩ :: fs)) := by
                    rw [← em]; exact (S3.setL q (min (Lo q) (Lo p))).drewN 1
                  have G4 : GSt w.heap.size (W2.setCell ⟨w.heap.size + 2, q, none⟩ (.int .i64 (if lp < lq then (lp : Int) else (lq : Int)))).drew u8 vS gs z := (G3.setFixed (a := ⟨w.heap.size + 2, q, none⟩) (by show w.heap.size + 2 < w.heap.size + 9; omega) _).drewN 1
                  have hlpn : lp ≤ n := by rw [hlp]; exact T.Lo_le
                  have hlqn : lq ≤ n := by
                    have h3 := T.inv.fi.2.1.lowp
                    have h4 := T.Vle q
                    rw [hlq]
                    exact Nat.le_trans h3 h4
                  clear S3 G3 S3' em hlp hlq HM2
                  go_upto_region 28 with (fail)
                  go_region
                  generalize (if lp < lq then (lp : Int) else (lq : Int)) = mv at S4 G4 ⊢
                  generalize (W2.setCell ⟨w.heap.size + 2, q, none⟩ (.int .i64 mv)).drew = W3 at S4 G4 ⊢
                  go_wp2
                  go_meet
                  case rel => exact ⟨S4, G4⟩
              case rest =>
                obtain ⟨S4, G4⟩ := hcut
                clear S3 G3
                have xV := S4.xV.cell (i := 0) (by omega)
                have xL := S4.xL.cell (i := 0) (by omega)
                have dV := S4.dV.cell (i := p) hp
                have dL := S4.dL.cell (i := p) hp
                rw [T.loU_p] at dL
                obtain ⟨lp, hlp⟩ : ∃ x, x = Lo p := ⟨_, rfl⟩
                obtain ⟨vp, hvp⟩ : ∃ x, x = V p := ⟨_, rfl⟩
                rw [← hlp] at dL
                rw [← hvp] at dV
                by_cases hlv : lp = vp
                · have heq : Lo p = V p := by omega
                  have HEQ : Hid (Lo p = V p) := heq
                  rw [T.loU_eq heq] at S4
                  subst hlv
                  clear hlp hvp heq
                  go_upto_region 29 with (fail)
                  go_quiet (fail)
                  go_upto_region 31 with (fail)
                  have S5 := S4.drewN nq
                  have GC := (G4.drewN nq).begin
                  generalize wc.drewN nq = W5 at S5 GC ⊢
                  have hsn : (Tj.stk (⟨p, k, rest⟩ :: fs)).Nodup := Tj.nodup_stk T.inv
                  have HB := T.bounds
                  have HSL : Hid (∀ v, v ∈ Tj.stk (⟨p, k, rest⟩ :: fs) → v < n) := T.stk_lt
                  have HON : Hid (∀ v, O v = decide (v ∈ Tj.stk fs ++ p :: rest)) := T.onS
                  clear S4 G4 xV xL dV dL
                  go_loopg [17] (rest.length) (fun g v wr => PL w n V Lo cnt (.slice (some ⟨gC, 0, none⟩) m capC) (Tj.stk fs) (Tj.cls fs) p rest u8 gs z g v wr)
                  case atStart => exact ⟨O, vS, rest, [], by simp, rfl, S5, GC, HON.out⟩
                  case round =>
                    clear S5 GC HON
                    obtain ⟨O1, vS1, r1, r2, hrr, rfl, S, G, HO⟩ := hrel
                    have HO1 : Hid (∀ u, O1 u = decide (u ∈ Tj.stk fs ++ p :: r1)) := HO
                    clear HO
                    have hN1 : (Tj.stk fs ++ p :: r1).Nodup := by
                      have h3 : (Tj.stk fs ++ p :: (r1 ++ r2)).Nodup := by rw [← hrr]; exact hsn
                      have h4 : Tj.stk fs ++ p :: (r1 ++ r2) = (Tj.stk fs ++ p :: r1) ++ r2 := by simp
                      rw [h4] at h3
                      exact (List.nodup_append.1 h3).1
                    obtain ⟨K1, t, hK, htm, hcase⟩ := Tj.pop_cases hN1
                    have htn : t < n := HSL.out t ((Tj.mem_stk_cons _ _ _).2 (.inr (by
                      rcases List.mem_cons.1 htm with e | e
                      · exact .inl e
                      · exact .inr (by show t ∈ rest; rw [hrr]; exact List.mem_append.2 (.inl e)))))
                    have hlen : (Tj.stk fs ++ p :: r1).length + r2.length ≤ n := by
                      have h3 := HB.2.1
                      have h4 : (Tj.stk (⟨p, k, rest⟩ :: fs)).length = (Tj.stk fs ++ p :: r1).length + r2.length := by rw [hrr]; simp [Tj.stk]; omega
                      omega
                    rw [hK] at S hN1 hlen
                    have HO2 : Hid (∀ u, O1 u = decide (u ∈ Tj.stk fs ++ K1 ++ [t])) := by rw [← hK]; exact HO1
                    have HO3 : Hid (∀ u, Tj.upd O1 t false u = decide (u ∈ Tj.stk fs ++ K1)) := Tj.pop_on hN1 HO2.out
                    obtain ⟨mS, hmS⟩ : ∃ x, x = (Tj.stk fs ++ K1).length := ⟨_, rfl⟩
                    have hoS := S.oS
                    rw [List.length_append, ← hmS] at hoS hlen
                    obtain ⟨gS, capS, rfl, hcapS, hgS, hcmS⟩ := own_slice1 (n := mS) hoS
                    clear hoS
                    have tS := S.topS hmS
                    have xS := S.xS.cell (i := 0) (by omega)
                    have fS := S.xS.frozen 0
                    have hlS : mS + 1 + r2.length ≤ n := by simp only [List.length_singleton] at hlen; omega
                    have S1 := S.popS hmS
                    have G1 : GCur w.heap.size (wr.setCell ⟨w.heap.size + 6, 0, none⟩ (.slice (some ⟨gS, 0, none⟩) mS capS)) u8 (.slice (some ⟨gS, 0, none⟩) mS capS) gs z u17 r2.reverse := G.setFixed (a := ⟨w.heap.size + 6, 0, none⟩) (by show w.heap.size + 6 < w.heap.size + 9; omega) _ rfl
                    have HMS : Hid (mS = (Tj.stk fs ++ K1).length) := hmS
                    have HCS : Hid ((t = p ∧ K1 = [] ∧ r1 = []) ∨ (t ≠ p ∧ ∃ r2, K1 = p :: r2 ∧ r1 = r2 ++ [t])) := hcase
                    have HRR : Hid (rest = r1 ++ r2) := hrr
                    clear S G hmS hcase hrr hK hlen hgS htm hN1
                    go_upto_region 33 with (fail)
                    generalize wr.setCell ⟨w.heap.size + 6, 0, none⟩ (.slice (some ⟨gS, 0, none⟩) mS capS) = W6 at S1 G1 ⊢
                    clear tS xS fS
                    have xO := S1.xO.cell (i := 0) (by omega)
                    have dO := S1.dO.cell (i := t) htn
                    have fO := S1.dO.frozen t
                    have S2 := S1.setO t false
                    have G2 : GCur w.heap.size (W6.setCell ⟨w.heap.size + 4, t, none⟩ (.bool false)) u8 (.slice (some ⟨gS, 0, none⟩) mS capS) gs z u17 r2.reverse := G1.setFixed (a := ⟨w.heap.size + 4, t, none⟩) (by show w.heap.size + 4 < w.heap.size + 9; omega) _ rfl
                    clear S1 G1
                    go_upto_region 34 with (fail)
                    generalize W6.setCell ⟨w.heap.size + 4, t, none⟩ (.bool false) = W7 at S2 G2 ⊢
                    clear xO dO fO
                    have gc1 : W7.cell? ⟨gb, 1, none⟩ = some (.slice a1 n c1) := by rw [S2.bel.cell hgl]; exact hN
                    obtain ⟨b1, o1, hA1, _, hc1⟩ := (h1.below S2.bel) t htn
                    rw [hA1] at gc1
                    clear hA1
                    have hr2 : r2.reverse.length ≤ 4096 := by rw [List.length_reverse]; omega
                    go_upto_if 177 with (at_builtin; refine wpList_pushG (t := t) S2 G2 hr2 rfl (.tmp 165) (.tmp 173) rfl rfl rfl ?_; intro g3 cap3 w3 S3 G3)
                    clear gc1 hc1 S2 G2
                    rw [List.length_reverse] at G3
                    rcases HCS.out with ⟨rfl, rfl, rfl⟩ | ⟨htp, r3, rfl, rfl⟩
                    · have HE : Hid (rest = r2) := HRR
                      obtain ⟨M1, hM1, T1⟩ := T.emit (O' := Tj.upd O1 t false) hks.out HEQ.out (by have := HO3.out; simpa using this)
                      have eL : r2.reverse ++ [t] = (t :: rest).reverse := by rw [HE.out]; simp
                      rw [eL] at G3
                      have eK : Tj.stk fs ++ [] = Tj.stk fs := List.append_nil _
                      rw [eK] at S3
                      have hmL : Hid (r2.length + 1 = ((t :: rest).reverse).length) := by show _ = _; rw [HE.out]; simp
                      have hg : gs.length ≤ 4096 := by have := HB.2.2.2; omega
                      clear T eL eK
                      go_wp2_with (at_builtin; refine wpList_pushGs S3 G3 hmL.out hg rfl (.tmp 178) (.tmp 180) rfl rfl rfl ?_; intro vG4 w4 S4 G4)
                      go_roundg M1
                      case measure => exact hM1
                      case rel => exact ⟨_, _, _, _, _, _, fs, _, S4, G4, T1⟩
                    · have d1 : ((t : Int) == (p : Int)) = false := by simp; omega
                      have hre : rest = r3 ++ (t :: r2) := by rw [HRR.out]; simp
                      have G4 : GCur w.heap.size w3 u8 (.slice (some ⟨gS, 0, none⟩) mS capS) gs z (.slice (some ⟨g3, 0, none⟩) (r2.length + 1) cap3) (t :: r2).reverse := by rw [List.reverse_cons]; exact G3
                      clear G3
                      have HRE : Hid (rest = r3 ++ (t :: r2)) := hre
                      clear hre
                      go_wp2
                      go_roundg r3.length
                      case measure => simp
                      case rel => exact ⟨_, _, r3, t :: r2, HRE.out, rfl, S3, G4, HO3.out⟩
                · have HNE : Hid (Lo p ≠ V p) := by show _ ≠ _; omega
                  have d0 : ((lp : Int) == (vp : Int)) = false := by simp; omega
                  obtain ⟨M1, fs1, hM1, T1, es, ec⟩ := T.folds hks.out HNE.out
                  clear hlp hvp T
                  rw [← es, ← ec] at S4
                  clear es ec
                  go_upto_region 29 with (fail)
                  go_quiet (fail)
                  go_wp2
                  go_roundg M1
                  case measure => exact hM1
                  case rel => exact ⟨_, _, _, _, vS, _, _, gs, S4.drewN _, G4.drewN _, T1⟩
      · have d0 : ((vr : Int) == 0) = false := by simp; omega
        have T1 : Tj.TS (sOf L Z) n (r + 1) M V Lo O cnt [] gs := T.seen (by omega)
        clear hvr T
        go_wp2
        go_roundg (n - (r + 1))
        case measure => omega
        case rel => exact ⟨r + 1, V, Lo, O, cnt, vS, vC, gs, M, by omega, rfl, by go_num, S, G, T1⟩
    · obtain rfl : r = n := by omega
      obtain ⟨aG, cG, rfl⟩ : ∃ a c, u8 = .slice a gs.length c := by
        obtain ⟨vals, g1, _⟩ := id G
        exact own_slice g1
      go_wp2
      go_ret
      refine ⟨gs, aG, cG, rfl, T.fin, ?_, S.bel⟩
      obtain ⟨vals, g1, g2⟩ := G
      intro i hi
      obtain ⟨γ, cap, e1, e2, _⟩ := g2 i hi
      rcases g1.2 with ⟨_, e0⟩ | ⟨g, cp, cur, e0, hb, _⟩
      · omega
      · cases e0
        refine ⟨some ⟨γ, 0, none⟩, cap, ⟨g, 0, rfl, by omega, ?_⟩, ?_⟩
        · rw [Nat.zero_add, World.ownsRow.cellAt g1 i (by omega)]; exact e1
        · intro j hj
          have hb2 := (own_lt e2 (g := γ) rfl).1
          refine ⟨γ, 0, rfl, by omega, ?_⟩
          show _ = some (Value.int .i64 (z (gnth (gAt gs i) j)))
          rw [Nat.zero_add, World.ownsRow.cellAt e2 j (by omega), List.getElem?_map, List.getElem?_eq_getElem hj, gnth_lt _ _ hj]
          rfl
end Go.Proofs.Qxb6605494a
