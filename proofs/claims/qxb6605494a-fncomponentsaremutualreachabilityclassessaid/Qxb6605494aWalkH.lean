import Derived.Test.Qxb6605494aWalkG
namespace Go.Proofs.Qxb6605494a
open Go.RowKit
set_option linter.unusedVariables false

/-- a surjection of [0, n) is an injection -/
theorem full_inj {o : Nat → Nat} {n : Nat} (h : Full o n) : ∀ i j, i < n → j < n → o i = o j → i = j := by
  have key : ∀ i j, i < n → j < n → i ≠ j → o i = o j → False := by
    intro i j hi hj hne e
    have h1 := Tj.cov_len n (((List.range n).erase j).map o) (fun v hv => by
      obtain ⟨x, hx, ex⟩ := h.2 v hv
      rw [List.mem_map]
      by_cases e1 : x = j
      · exact ⟨i, (List.mem_erase_of_ne hne).2 (List.mem_range.2 hi), by rw [e, ← e1]; exact ex⟩
      · exact ⟨x, (List.mem_erase_of_ne e1).2 (List.mem_range.2 hx), ex⟩)
    rw [List.length_map, List.length_erase_of_mem (List.mem_range.2 hj), List.length_range] at h1
    omega
  intro i j hi hj e
  by_cases e1 : i = j
  · exact e1
  · exact (key i j hi hj e1 e).elim

theorem strict_of {n : Nat} {z : Nat → Int} {o : Nat → Nat} (hf : Full o n) (hu : SUp z o n) (hi : ∀ p q, p < n → q < n → z p = z q → p = q) : ∀ i j, i < j → j < n → z (o i) < z (o j) := by
  intro i j hij hj
  have h1 := hu i j hij hj
  have h2 : z (o i) ≠ z (o j) := fun e => by
    have := full_inj hf i j (by omega) hj (hi _ _ (hf.1 i (by omega)) (hf.1 j hj) e)
    omega
  omega

theorem Mat.mono {lo lo' : Nat} {w : World} {a : Option Addr} {n : Nat} {A : Nat → Option Addr} {L C : Nat → Nat} {Z : Nat → Nat → Int} (h : Mat lo w a n A L C Z) (hl : lo' ≤ lo) : Mat lo' w a n A L C Z := by
  intro i hi
  obtain ⟨⟨b, off, e, hb, hc⟩, hr⟩ := h i hi
  exact ⟨⟨b, off, e, by omega, hc⟩, hr.mono hl⟩

def NewPost (a1 a2 : Option Addr) (n m c1 c2 : Nat) (w : World) (e : Ending) (w' : World) : Prop :=
  e = .returned (.pointer (some ⟨w.heap.size, 0, Option.none⟩)) ∧ w' = w.alloc (.cells #[.map Option.none, .slice a1 n c1, .slice a2 m c2, .slice Option.none 0 0] 40)

set_option maxRecDepth 100000 in
set_option maxHeartbeats 2000000 in
theorem newgraph_any (a1 a2 : Option Addr) (n m c1 c2 : Nat) (w : World) : Calls Try.prog 10 #[.slice a1 n c1, .slice a2 m c2] w (NewPost a1 a2 n m c1 c2 w) := by
  go_enter Try.func10, Try.ntmps10
  go_wp2
  go_ret
  exact ⟨rfl, rfl⟩

set_option maxRecDepth 100000 in
set_option maxHeartbeats 2000000 in
theorem zzcomp_any (w : World) (gb n c1 c2 lo : Nat) (a1 a2 : Option Addr) (A : Nat → Option Addr) (L C : Nat → Nat) (Z : Nat → Nat → Int) (z : Nat → Int) (hn : n ≤ 4096) (hlo : lo ≤ w.heap.size)
    (hN : w.cell? ⟨gb, 1, none⟩ = some (.slice a1 n c1)) (hG : w.cell? ⟨gb, 2, none⟩ = some (.slice a2 n c2)) (h1 : Row .i64 lo w a1 n z) (h2 : Mat lo w a2 n A L C Z)
    (hL : ∀ i, i < n → L i ≤ 1048576) (hZ : ∀ p, p < n → ∀ k, k < L p → 0 ≤ Z p k ∧ Z p k < n) :
    Calls Try.prog 9 #[.pointer (some ⟨gb, 0, none⟩)] w (CompPost n lo (sOf L Z) z w) := by
  have E := comp_any w gb n c1 c2 lo a1 a2 A L C Z z hn hlo hN hG h1 h2 hL hZ
  clear hN hG
  go_enter Try.func9, Try.ntmps9
  go_wp2_with (go_at_call 15; refine E.mono ?_; rintro e w1 ⟨gs, a, c, rfl, H⟩)
  go_ret
  exact ⟨gs, a, c, rfl, H⟩

def TopPost (w : World) (e : Ending) (w' : World) : Prop := e = .returned (.bool true) ∧ Below w.heap.size w w'

set_option maxRecDepth 100000 in
set_option maxHeartbeats 8000000 in
theorem top_any (a1 a2 : Option Addr) (n m c1 c2 : Nat) (A : Nat → Option Addr) (L C : Nat → Nat) (Z : Nat → Nat → Int) (z : Nat → Int) (w : World) (m1 : n ≤ 9223372036854775807) (m2 : m ≤ 9223372036854775807)
    (hn1 : a1 = none → n = 0 ∧ c1 = 0) (hn2 : a2 = none → m = 0 ∧ c2 = 0) (h1 : Row .i64 0 w a1 n z) (h2 : Mat 0 w a2 m A L C Z) (hL : ∀ i, i < m → L i ≤ 9223372036854775807) (hN : ∀ i, i < m → A i = none → L i = 0)
    (hZ : ∀ i, i < m → ∀ k, k < L i → -2147483648 ≤ Z i k ∧ Z i k ≤ 2147483647) :
    Calls Try.prog 3 #[.slice a1 n c1, .slice a2 m c2] w (TopPost w) := by
  have E4 := zzBytes_any a1 a2 n m c1 c2 0 A L C Z w m1 m2 h2 hL
  have HN1 : Hid (a1 = none → n = 0 ∧ c1 = 0) := hn1
  have HN2 : Hid (a2 = none → m = 0 ∧ c2 = 0) := hn2
  clear hn1 hn2
  go_enter Try.func3, Try.ntmps3
  go_upto_if 21 with (go_at_call 4; refine E4.mono ?_; rintro e w1 ⟨⟨r1, rfl⟩, hw⟩; obtain rfl := hw.symm)
  clear E4
  cases r1 with
  | false =>
    go_wp2
    go_ret
    exact ⟨rfl, Below.refl _ _⟩
  | true =>
    by_cases hn : n ≤ 4096
    · by_cases hm : m ≤ 4096
      · have t1 : decide ((4096 : Int) < (n : Int)) = false := by simp; omega
        have t2 : decide ((4096 : Int) < (m : Int)) = false := by simp; omega
        have E5 := small_any a1 a2 n m c1 c2 0 A L C Z w hn hm h2 hL
        go_upto_if 33 with (go_at_call 5; refine E5.mono ?_; rintro e w1 ⟨⟨r2, rfl, HS⟩, hw⟩; obtain rfl := hw.symm)
        clear E5
        cases r2 with
        | false =>
          go_wp2
          go_ret
          exact ⟨rfl, Below.refl _ _⟩
        | true =>
          have hL2 := HS rfl
          have E6 := well_any a1 a2 n m c1 c2 0 z A L C Z w hn hm h1 h2 hL2 hZ
          clear HS hL
          go_upto_if 37 with (go_at_call 6; refine E6.mono ?_; rintro e w2 ⟨r3, rfl, HW, B2⟩)
          clear E6
          cases r3 with
          | false =>
            go_wp2
            go_ret
            exact ⟨rfl, B2⟩
          | true =>
            obtain ⟨hmn, HG⟩ := HW rfl
            subst hmn
            clear HW hZ t1 t2 m1 m2
            obtain ⟨hZ, hinj⟩ := HG
            have E7 := clone_any a1 m c1 0 z w2 hn HN1.out (h1.below B2)
            go_upto_region 10 with (go_at_call 7; refine E7.mono ?_; rintro e w3 ⟨aN, cN, rfl, R3, B3⟩)
            clear E7
            have B13 := B2.trans (B3.mono B2.size)
            have E8 := cloneM_any a2 m c2 0 A L C Z w3 hn HN2.out (h2.below B13) hL2 hN
            go_upto_region 11 with (go_at_call 8; refine E8.mono ?_; rintro e w4 ⟨aM, cM, AM, rfl, M4, B4⟩)
            clear E8 h1 h2 hN HN1 HN2
            have R4 := (R3.mono (Nat.zero_le _)).below B4
            have M4 := M4.mono (Nat.zero_le _)
            have B14 := B13.trans (B4.mono B13.size)
            clear R3 B3 B4 B13 B2
            have E10 := newgraph_any aN aM m m cN cM w4
            obtain ⟨w5, hw5⟩ : ∃ x, x = w4.alloc (.cells #[.map Option.none, .slice aN m cN, .slice aM m cM, .slice Option.none 0 0] 40) := ⟨_, rfl⟩
            have B5 : Below w4.heap.size w4 w5 := by rw [hw5]; exact (Below.refl _ _).alloc (Nat.le_refl _) _
            have cN5 : w5.cell? ⟨w4.heap.size, 1, none⟩ = some (.slice aN m cN) := by rw [hw5]; simp
            have cM5 : w5.cell? ⟨w4.heap.size, 2, none⟩ = some (.slice aM m cM) := by rw [hw5]; simp
            have E9 := zzcomp_any w5 w4.heap.size m cN cM 0 aN aM AM L L Z z hn (Nat.zero_le _) cN5 cM5 (R4.below B5) (M4.below B5) hL2 hZ
            clear cN5 cM5
            subst hw5
            go_upto_region 12 with (first | (go_at_call 10; refine E10.mono ?_; rintro e w5 ⟨rfl, rfl⟩) | (go_at_call 9; refine E9.mono ?_; rintro e w6 ⟨gs, aG, cG, rfl, FN, GM, B6⟩))
            have B46 := B5.trans (B6.mono B5.size)
            have R6 := R4.below B46
            have M6 := M4.below B46
            have B16 := B14.trans (B46.mono B14.size)
            clear E9 E10 R4 M4 B5 B6 B46 B14
            obtain ⟨ng, hng⟩ : ∃ x, x = gs.length := ⟨_, rfl⟩
            rw [← hng] at GM
            rw [← hng]
            have HNG : Hid (ng = gs.length) := hng
            have hng2 : ng ≤ 4096 := by have := FN.num; omega
            clear hng
            have E11 := sorted_any aN m cN 0 z w6 hn R6
            go_upto_region 14 with (go_at_call 11; refine E11.mono ?_; rintro e w7 ⟨o, rfl, R7, FU, SU, B7⟩)
            have hst := strict_of FU SU hinj
            have E12 := group_any aN (some ⟨w6.heap.size, 0, none⟩) aG m ng cN m cG 0 z o gs w7 hn HNG hng2 (R6.below B7) (R7.mono (Nat.zero_le _)) FU hst (GM.below B7)
              (fun i hi => by
                have hi' : i < gs.length := by rw [← HNG.out]; exact hi
                rw [gAt_lt gs i hi']; exact List.length_pos_iff.2 (FN.ne _ (List.getElem_mem hi'))) FN.nod FN.lt FN.cov FN.len
            clear E11 hst SU R7 FU hinj
            have M7 := M6.below B7
            have B17 := B16.trans (B7.mono B16.size)
            clear M6 R6 GM B7 B16
            go_upto_region 17 with (go_at_call 12; refine E12.mono ?_; rintro e w8 ⟨cO, Gf, rfl, R8, HGf, B8⟩)
            have M8 := M7.below B8
            have B18 := B17.trans (B8.mono B17.size)
            clear E12 M7 B17 B8
            obtain ⟨W, hW⟩ : ∃ x, x = (m + 63) / 64 := ⟨_, rfl⟩
            have HW : Hid (W = (m + 63) / 64) := hW
            have hW2 : W ≤ 64 := by omega
            have hW1 : ((m : Int) + 63) / 64 = (W : Int) := by rw [hW]; omega
            obtain ⟨N, hN'⟩ : ∃ x, x = m * W := ⟨_, rfl⟩
            have HNN : Hid (N = m * W) := hN'
            have hNb : N ≤ 262144 := by
              rw [hN']
              exact Nat.le_trans (Nat.mul_le_mul hn hW2) (by decide)
            clear hW hN'
            have E13 := reach_any aM m W N cM 0 AM L L Z w8 hn HW hW2 HNN hNb M8 hL2 hZ
            go_upto_region 18 with (fail)
            rw [hW1]
            clear hW1
            go_upto_region 20 with (go_at_call 13; refine E13.mono ?_; rintro e w9 ⟨cR, wd, rfl, R9, hwd, HR, B9⟩)
            have M9 := M8.below B9
            have G9 := R8.below B9
            have B19 := B18.trans (B9.mono B18.size)
            clear E13 M8 R8 B9 B18
            have R9 := R9.mono (Nat.zero_le _)
            have HSAME : Hid (∀ p q, p < m → q < m → (Gf p = Gf q ↔ Bt.bt wd W p q = true ∧ Bt.bt wd W q p = true)) := by
              intro p q hp hq
              rw [HR p q hp hq, HR q p hq hp]
              exact FN.same (HGf p hp).1 (HGf q hq).1
            have HEDGE : Hid (∀ p k t, p < m → k < L p → Z p k = (t : Nat) → t < m → Gf t ≤ Gf p) := by
              intro p k t hp hk ht htm
              refine FN.edge (HGf p hp).1 (HGf t htm).1 ?_
              have := sOf_get L Z p k hk
              rw [ht] at this
              exact List.mem_of_getElem? this
            have hgb : ∀ p, p < m → Gf p < 4096 := fun p hp => by have h3 := (HGf p hp).2; have h4 := HNG.out; omega
            clear HR HGf FN HNG
            have g9 : Hid (∀ p, p < m → w9.cell? ⟨w7.heap.size, p, none⟩ = some (.int .i64 (Gf p : Int))) := by
              intro p hp
              obtain ⟨b, off, e, _, hc⟩ := G9 p hp
              cases e
              rw [Nat.zero_add] at hc
              exact hc
            clear G9
            go_loopg [12] m (fun g v wr => ∃ p j, p ≤ m ∧ g = m - p ∧ v = .int .i64 (p : Nat) ∧ wr = w9.drewN j)
            case atStart => exact ⟨0, 0, Nat.zero_le _, rfl, rfl, rfl⟩
            case round =>
              obtain ⟨p, j, hp, rfl, rfl, rfl⟩ := hrel
              by_cases hpl : p < m
              · go_upto_region 23 with (fail)
                go_loopg [13] m (fun g v wr => ∃ q j, q ≤ m ∧ g = m - q ∧ v = .int .i64 (q : Nat) ∧ wr = w9.drewN j)
                case atStart => exact ⟨0, j, Nat.zero_le _, rfl, rfl, rfl⟩
                case round =>
                  clear j
                  obtain ⟨q, j, hq, rfl, rfl, rfl⟩ := hrel
                  by_cases hql : q < m
                  · have EE : ∀ i k, i < m → k < m → Calls Try.prog 14 #[.slice (some ⟨w8.heap.size, 0, none⟩) N cR, .int .i64 W, .int .i64 (i : Nat), .int .i64 (k : Nat)] (w9.drewN j) fun e w' => e = .returned (.bool (Bt.bt wd W i k)) ∧ w' = w9.drewN j :=
                      fun i k hi hk => reaches_any (some ⟨w8.heap.size, 0, none⟩) m W N cR i k 0 wd (w9.drewN j) hn HW hW2 HNN hNb hi hk hwd R9
                    have gp := g9.out p hpl
                    have gq := g9.out q hql
                    have hs := HSAME.out p q hpl hql
                    have bp := hgb p hpl
                    have bq := hgb q hql
                    generalize Gf p = u at gp hs bp
                    generalize Gf q = v at gq hs bq
                    cases hx : Bt.bt wd W p q with
                    | false =>
                      have hd : ((u : Int) == (v : Int)) = false := by
                        have : u ≠ v := fun e => by have := (hs.1 e).1; rw [hx] at this; cases this
                        simp; omega
                      clear hs
                      go_upto_region 26 with (go_at_call 14; refine (EE _ _ hpl hql).mono ?_; rintro e w10 ⟨rfl, hw⟩; obtain rfl := hw.symm; rw [hx])
                      go_quiet (fail)
                      go_wp2
                      go_roundg (m - (q + 1))
                      case measure => omega
                      case rel => exact ⟨q + 1, _, by omega, rfl, by go_num, rfl⟩
                    | true =>
                      cases hy : Bt.bt wd W q p with
                      | false =>
                        have hd : ((u : Int) == (v : Int)) = false := by
                          have : u ≠ v := fun e => by have := (hs.1 e).2; rw [hy] at this; cases this
                          simp; omega
                        clear hs
                        go_upto_region 26 with (go_at_call 14; refine (EE _ _ (by assumption) (by assumption)).mono ?_; rintro e w10 ⟨rfl, hw⟩; obtain rfl := hw.symm; (try rw [hx]); (try rw [hy]))
                        go_quiet (fail)
                        go_wp2
                        go_roundg (m - (q + 1))
                        case measure => omega
                        case rel => exact ⟨q + 1, _, by omega, rfl, by go_num, rfl⟩
                      | true =>
                        obtain rfl : u = v := hs.2 ⟨hx, hy⟩
                        clear hs
                        go_upto_region 26 with (go_at_call 14; refine (EE _ _ (by assumption) (by assumption)).mono ?_; rintro e w10 ⟨rfl, hw⟩; obtain rfl := hw.symm; (try rw [hx]); (try rw [hy]))
                        go_quiet (fail)
                        go_wp2
                        go_roundg (m - (q + 1))
                        case measure => omega
                        case rel => exact ⟨q + 1, _, by omega, rfl, by go_num, rfl⟩
                  · go_wp2
                    go_roundg (m - (p + 1))
                    case measure => omega
                    case rel => exact ⟨p + 1, j, by omega, rfl, by go_num, rfl⟩
              · clear hp
                go_upto_region 29 with (fail)
                go_loopg [15] m (fun g v wr => ∃ p j, p ≤ m ∧ g = m - p ∧ v = .int .i64 (p : Nat) ∧ wr = w9.drewN j)
                case atStart => exact ⟨0, j, Nat.zero_le _, rfl, rfl, rfl⟩
                case round =>
                  clear j hpl
                  obtain ⟨s, j, hs, rfl, rfl, rfl⟩ := hrel
                  by_cases hsl : s < m
                  · have hLs := hL2 s hsl
                    go_upto_region 32 with (fail)
                    go_loopg [16] (L s) (fun g v wr => ∃ k j, k ≤ L s ∧ g = L s - k ∧ v = .int .i64 (k : Nat) ∧ wr = w9.drewN j)
                    case atStart => exact ⟨0, j, Nat.zero_le _, rfl, rfl, rfl⟩
                    case round =>
                      clear j
                      obtain ⟨k, j, hk, rfl, rfl, rfl⟩ := hrel
                      obtain ⟨⟨b2, o2, rfl, _, hrp⟩, hrow⟩ := M9 s hsl
                      by_cases hkl : k < L s
                      · obtain ⟨b3, o3, hA3, _, hc3⟩ := hrow k hkl
                        obtain ⟨t, ht⟩ : ∃ t : Nat, Z s k = (t : Int) := ⟨(Z s k).toNat, by have := hZ s hsl k hkl; omega⟩
                        have htn : t < m := by have := hZ s hsl k hkl; omega
                        have hle := HEDGE.out s k t hsl hkl ht htn
                        rw [ht] at hc3
                        rw [hA3] at hrp
                        have gp := g9.out s hsl
                        have gt := g9.out t htn
                        have bp := hgb s hsl
                        have bt := hgb t htn
                        generalize Gf s = u at gp hle bp
                        generalize Gf t = v at gt hle bt
                        have hd : ¬ ((u : Int) < (v : Int)) := by omega
                        clear ht hA3 hrow
                        go_upto_region 35 with (fail)
                        go_quiet (fail)
                        go_wp2
                        go_roundg (L s - (k + 1))
                        case measure => omega
                        case rel => exact ⟨k + 1, _, by omega, rfl, by go_num, rfl⟩
                      · clear hrow
                        go_wp2
                        go_roundg (m - (s + 1))
                        case measure => omega
                        case rel => exact ⟨s + 1, _, by omega, rfl, by go_num, rfl⟩
                  · go_wp2
                    go_ret
                    exact ⟨rfl, below_drewN B19 j⟩
      · have t1 : decide ((4096 : Int) < (n : Int)) = false := by simp; omega
        have t2 : decide ((4096 : Int) < (m : Int)) = true := by simp; omega
        go_wp2
        go_ret
        exact ⟨rfl, Below.refl _ _⟩
    · have t1 : decide ((4096 : Int) < (n : Int)) = true := by simp; omega
      go_wp2
      go_ret
      exact ⟨rfl, Below.refl _ _⟩
end Go.Proofs.Qxb6605494a
