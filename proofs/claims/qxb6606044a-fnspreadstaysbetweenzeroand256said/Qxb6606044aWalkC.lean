import Derived.Test.Qxb6606044aWalkB
import Derived.Deep.CutRange
namespace Go.Proofs.Qxb6606044a
open Go.RowKit
set_option linter.unusedVariables false

theorem ret_int {k : IntKind} {a b : Int} (h : a = b) : Value.int k a = .int k b := by rw [h]

set_option maxRecDepth 100000 in
set_option maxHeartbeats 1000000 in
theorem model_some (b off len cap q st : Nat) (s : Int) (z : Nat → Int) (w : World) (hlen : len ≤ 1048576) (hs : 1 ≤ s)
    (hq : (len : Int) / s = (q : Int)) (hq1 : q ≤ 1048576) (hst : st = Pl.strd q)
    (hc : ∀ i, i < len → w.cell? ⟨b, off + i, none⟩ = some (.int .u8 (z i))) (hz : ∀ i, i < len → 0 ≤ z i ∧ z i < 256) :
    Calls Try.prog 9 #[.slice (some ⟨b, off, none⟩) len cap, .int .i64 s] w fun e w' => e = .returned (.float .f64 (spv (Pl.prs (smp z st) (Pl.nOf len st)) (Pl.nOf len st))) ∧ Below w.heap.size w w' := by
  have h29 := rz29
  have HST : Hid (st = Pl.strd q) := hst
  have hst1 : 1 ≤ st := by rw [hst]; exact Pl.strd_pos q
  have hst2 : st ≤ 1048577 := by have := Pl.strd_le q; omega
  clear hst
  go_enter Try.func9, Try.ntmps9
  go_upto_if 16 with (fail)
  go_cut [5] from 11 to 72 (fun v wc => w = wc ∧ ∃ s1 : Nat, Hid (s1 = if q < 1 then 1 else q) ∧ 1 ≤ s1 ∧ s1 ≤ 1048576 ∧ v = .int .i64 s1)
  case first =>
    by_cases h : q < 1
    · go_wp2
      go_meet
      case rel => exact ⟨rfl, 1, (if_pos h).symm, by omega, by omega, rfl⟩
    · go_wp2
      go_meet
      case rel => exact ⟨rfl, q, (if_neg h).symm, by omega, by omega, rfl⟩
  case rest =>
    obtain ⟨rfl, s1, H1, hs1, hs2, rfl⟩ := hcut
    clear hq
    go_upto_if 19 with (fail)
    go_cut [5] from 11 to 72 (fun v wc => w = wc ∧ v = .int .i64 st)
    case first =>
      have e1 : st = if s1 % 2 = 0 then s1 + 1 else s1 := by
        rw [HST.out, H1.out]; unfold Pl.strd
        by_cases h : q < 1
        · have : q = 0 := by omega
          subst this; rfl
        · rw [if_neg h]
          by_cases h1 : q ≤ 1
          · have : q = 1 := by omega
            subst this; rfl
          · rw [if_neg h1]
      by_cases h : s1 % 2 = 0
      · have e2 : st = s1 + 1 := by rw [e1, if_pos h]
        clear e1
        have E2 : Hid (st = s1 + 1) := e2
        clear e2
        have hh : (((s1 : Int) % 2) == 0) = true := by simp; omega
        go_wp2
        go_meet
        case rel => exact ⟨rfl, ret_int (by have := E2.out; omega)⟩
      · have e2 : st = s1 := by rw [e1, if_neg h]
        have hh : (((s1 : Int) % 2) == 0) = false := by simp; omega
        clear e1
        have E2 : Hid (st = s1) := e2
        clear e2
        go_wp2
        go_meet
        case rel => exact ⟨rfl, ret_int (by have := E2.out; omega)⟩
    case rest =>
      obtain ⟨rfl, rfl⟩ := hcut
      clear H1 hs1 hs2
      by_cases hl0 : len = 0
      · subst hl0
        have hv : spv (Pl.prs (smp z st) (Pl.nOf 0 st)) (Pl.nOf 0 st) = 4607182418800017408 := by
          have : Pl.nOf 0 st = 0 := by unfold Pl.nOf; exact Nat.div_eq_of_lt (by omega)
          rw [this]; rfl
        have HV : Hid (spv (Pl.prs (smp z st) (Pl.nOf 0 st)) (Pl.nOf 0 st) = 4607182418800017408) := hv
        clear hv
        go_wp2
        go_ret
        exact ⟨ret_float HV.out.symm, Below.refl _ _⟩
      · obtain ⟨n1, hn1⟩ : ∃ n1, n1 = (len - 1) / st := ⟨_, rfl⟩
        have hnI : ((len : Int) - 1) / (st : Int) = (n1 : Int) := by rw [hn1, Int.natCast_ediv]; congr 1; omega
        have hnO : Pl.nOf len st = n1 + 1 := by
          unfold Pl.nOf; rw [show len + st - 1 = (len - 1) + st by omega, Nat.add_div_right _ (by omega), hn1]
        have hnm : n1 * st ≤ len - 1 := by rw [hn1]; exact Nat.div_mul_le_self _ _
        have hnl : n1 ≤ 1048575 := by
          have : n1 * 1 ≤ n1 * st := Nat.mul_le_mul_left _ hst1
          omega
        have HN : Hid (Pl.nOf len st = n1 + 1) := hnO
        have HM : Hid (n1 * st ≤ len - 1) := hnm
        clear hn1 hnO hnm
        by_cases h0 : n1 = 0
        · have hv : spv (Pl.prs (smp z st) (Pl.nOf len st)) (Pl.nOf len st) = 4607182418800017408 := by
            rw [HN.out, h0]; rfl
          have HV : Hid (spv (Pl.prs (smp z st) (Pl.nOf len st)) (Pl.nOf len st) = 4607182418800017408) := hv
          clear hv
          go_wp2
          go_ret
          exact ⟨ret_float HV.out.symm, Below.refl _ _⟩
        · go_wp2
          clear h29 hnI
          go_loopg [8] (n1 + 1) (fun g i wr => ∃ k : Nat, k ≤ n1 + 1 ∧ g = n1 + 1 - k ∧ i = .int .i64 k ∧
            wr.rowIs w.heap.size 29 256 (fun v => .int .i64 (Pl.cnt (smp z st) k v)) ∧ Below w.heap.size w wr)
          case atStart => exact ⟨0, by omega, rfl, rfl, (row_zi64 w).congr (fun j _ => rfl), (Below.refl _ _).alloc (Nat.le_refl _) _⟩
          case round =>
            obtain ⟨k, hk, rfl, rfl, hrow, hbel⟩ := hrel
            by_cases hlt : k < n1 + 1
            · obtain ⟨m, hm⟩ : ∃ m, m = k * st := ⟨_, rfl⟩
              have hml : m < len := by
                have h1 := HM.out
                have h2 : k * st ≤ n1 * st := Nat.mul_le_mul_right _ (by omega)
                omega
              have hmI : (k : Int) * (st : Int) = (m : Int) := by rw [hm, Int.natCast_mul]
              have hcb := Pl.cnt_le (smp z st) k (smp z st k)
              obtain ⟨y, hy⟩ : ∃ y, y = smp z st k := ⟨_, rfl⟩
              have hzm : z m = (y : Int) := by have := hz m hml; rw [hy]; unfold smp; rw [← hm]; omega
              have hy256 : y < 256 := by have := hz m hml; omega
              have c1 : wr.cell? ⟨b, off + m, none⟩ = some (.int .u8 (y : Int)) := by
                have h := hc m hml
                rw [hbel.cell (World.block_lt_of_cell? _ _ h), h, hzm]
              have c2 : wr.cell? ⟨w.heap.size, y, none⟩ = some (.int .i64 (Pl.cnt (smp z st) k y)) := hrow.cell hy256
              have c3 : wr.frozen? ⟨w.heap.size, y, none⟩ = false := hrow.frozen y
              rw [← hy] at hcb
              have HY : Hid (y = smp z st k) := hy
              clear hy hc hz hzm hm
              go_wp2
              go_roundg (n1 + 1 - (k + 1))
              case measure => omega
              case rel =>
                have hY := HY.out
                refine ⟨k + 1, by omega, rfl, by go_num, (hrow.set y _).congr (fun j hj => ?_), hbel.setCell (Nat.le_refl _) _⟩
                rw [show Pl.cnt (smp z st) (k + 1) j = Pl.cnt (smp z st) k j + (if j = smp z st k then 1 else 0) from rfl, ← hY]
                by_cases e : j = y
                · subst e; rw [if_pos rfl, if_pos rfl]; go_num
                · rw [if_neg e, if_neg e]; rfl
            · obtain rfl : k = n1 + 1 := by omega
              have h256 : ∀ j, j < n1 + 1 → smp z st j < 256 := by
                intro j hj
                have h1 := HM.out
                have h2 : j * st ≤ n1 * st := Nat.mul_le_mul_right _ (by omega)
                have := hz (j * st) (by omega)
                unfold smp; omega
              have hkb := Pl.tri_bound (n1 + 1) (by omega)
              have hpb := Pl.prs_le (smp z st) (n1 + 1)
              have HS := fun m (h : m ≤ 256) => Pl.hsum_le (smp z st) (n1 + 1) m h256 h
              have HT : Hid (Pl.hsum (Pl.cnt (smp z st) (n1 + 1)) 256 = Pl.prs (smp z st) (n1 + 1)) := Pl.hsum_cnt (smp z st) (n1 + 1) h256
              clear hc hz h256
              go_wp2
              go_loopg [9, 10] 256 (fun g p i wr => ∃ v : Nat, v ≤ 256 ∧ g = 256 - v ∧ i = .int .i64 v ∧ p = .int .i64 (Pl.hsum (Pl.cnt (smp z st) (n1 + 1)) v) ∧
                wr.rowIs w.heap.size 29 256 (fun v => .int .i64 (Pl.cnt (smp z st) (n1 + 1) v)) ∧ Below w.heap.size w wr)
              case atStart => exact ⟨0, by omega, rfl, rfl, rfl, hrow, hbel⟩
              case round =>
                clear hrow hbel
                obtain ⟨v, hv, rfl, rfl, rfl, hrow, hbel⟩ := hrel
                have hsv := HS v hv
                by_cases hlt : v < 256
                · have hsv2 := HS (v + 1) (by omega)
                  rw [show Pl.hsum (Pl.cnt (smp z st) (n1 + 1)) (v + 1) = Pl.hsum (Pl.cnt (smp z st) (n1 + 1)) v + Pl.tri (Pl.cnt (smp z st) (n1 + 1) v) from rfl] at hsv2
                  have hcl := Pl.cnt_le (smp z st) (n1 + 1) v
                  have c2 : wr.cell? ⟨w.heap.size, v, none⟩ = some (.int .i64 (Pl.cnt (smp z st) (n1 + 1) v)) := hrow.cell hlt
                  obtain ⟨c, hcc⟩ : ∃ c, c = Pl.cnt (smp z st) (n1 + 1) v := ⟨_, rfl⟩
                  rw [← hcc] at c2 hcl hsv2
                  have t1 := Pl.tri_int c
                  have t2 := Pl.tri_int_nonneg c
                  have t3 := Pl.tri_int_le c (by omega)
                  have HC : Hid (c = Pl.cnt (smp z st) (n1 + 1) v) := hcc
                  clear hcc HS
                  go_wp2
                  go_quiet (fail)
                  go_wp2
                  go_roundg (256 - (v + 1))
                  case measure => omega
                  case rel =>
                    refine ⟨v + 1, by omega, rfl, by go_num, ?_, hrow, below_drewN hbel _⟩
                    rw [show Pl.hsum (Pl.cnt (smp z st) (n1 + 1)) (v + 1) = Pl.hsum (Pl.cnt (smp z st) (n1 + 1)) v + Pl.tri (Pl.cnt (smp z st) (n1 + 1) v) from rfl, ← HC.out]
                    go_num
                · obtain rfl : v = 256 := by omega
                  have hpv := HT.out
                  rw [hpv]
                  have hv : spv (Pl.prs (smp z st) (n1 + 1)) (n1 + 1) = Fl.ratio (Pl.prs (smp z st) (n1 + 1)) (Pl.tri (n1 + 1)) := by unfold spv; rw [if_neg (by omega)]
                  have HV : Hid (spv (Pl.prs (smp z st) (n1 + 1)) (n1 + 1) = Fl.ratio (Pl.prs (smp z st) (n1 + 1)) (Pl.tri (n1 + 1))) := hv
                  obtain ⟨f1, f2, _, _⟩ := Fl.ratio_facts (Pl.prs (smp z st) (n1 + 1)) (Pl.tri (n1 + 1)) hpb (Pl.two_le_tri (n1 + 1) (by omega)) (by omega)
                  have hti := Pl.tri_int (n1 + 1)
                  have g1 := Pl.tri_int_nonneg (n1 + 1)
                  have g2 := Pl.tri_int_le (n1 + 1) (by omega)
                  have ee : ((n1 + 1 : Nat) : Int) * (((n1 + 1 : Nat) : Int) - 1) = ((n1 : Int) + 1) * (n1 : Int) := by congr 1; omega
                  rw [ee] at hti g1 g2
                  have q1 : ∀ w : World, (binOp .mul 25 (.float .f64 4643211215818981376) (.float .f64 (floatOfInt .f64 (Pl.prs (smp z st) (n1 + 1) : Int)))).run Try.prog w = .ok (.float .f64 (Fl.ratioM (Pl.prs (smp z st) (n1 + 1)))) w := fun w => run_float_arith w .mul 25 .f64 _ _ _ f1
                  have q2 : ∀ w : World, (binOp .quo 25 (.float .f64 (Fl.ratioM (Pl.prs (smp z st) (n1 + 1)))) (.float .f64 (floatOfInt .f64 (Pl.tri (n1 + 1) : Int)))).run Try.prog w = .ok (.float .f64 (Fl.ratio (Pl.prs (smp z st) (n1 + 1)) (Pl.tri (n1 + 1)))) w := fun w => run_float_arith w .quo 25 .f64 _ _ _ f2
                  clear hv hrow f1 f2 ee HS
                  go_wp2
                  go_ret
                  exact ⟨ret_float (by rw [HN.out, HV.out]), hbel⟩
end Go.Proofs.Qxb6606044a
