import Derived.Test.Qxb6606080aWalkC
import Derived.Test.Qxb6606080aMerge
namespace Go.Proofs.Qxb6606080a
open Go.RowKit
set_option linter.unusedVariables false

/-- what a clone leaves -/
def ClonePost (n : Nat) (S : Nat → ByteArray) (w : World) (e : Ending) (w' : World) : Prop := ∃ a c, e = .returned (.slice a n c) ∧ n ≤ c ∧ Strs w' a n S ∧ Below w.heap.size w w'

theorem clone_any (a : Option Addr) (n c : Nat) (S : Nat → ByteArray) (w : World) (hn : n ≤ 4096) (hnil : a = none → n = 0 ∧ c = 0) (h : Strs w a n S) :
    Calls Try.prog 9 #[.slice a n c] w (ClonePost n S w) := by
  cases a with
  | none =>
    obtain ⟨rfl, rfl⟩ := hnil rfl
    refine (clone_nil w).mono ?_
    rintro e w' ⟨rfl, rfl⟩
    exact ⟨none, 0, rfl, Nat.le_refl _, h, Below.refl _ _⟩
  | some x =>
    refine (clone_some x n c S w hn h).mono ?_
    rintro e w' ⟨rfl, hrow, hbel⟩
    refine ⟨_, n, rfl, Nat.le_refl _, fun i hi => ⟨w.heap.size, 0, rfl, ?_, ?_⟩, hbel⟩
    · rw [Nat.zero_add]; exact hrow.cell hi
    · obtain ⟨_, _, _, _, hs⟩ := h i hi; exact hs

theorem make0 (n : Nat) (hn : n ≤ 8192) (w : World) : (Instr.makeSlice 22 (.int .i64 0) (.int .i64 (n : Int))).run Try.prog w = .ok (.slice (some ⟨w.heap.size, 0, none⟩) 0 n) (w.alloc (.cells (madeCells #[.string ⟨#[]⟩] n) 9)) := by
  obtain ⟨i0, hi, hz0, hz1, hz2⟩ := info_parts Try.info9
  have := run_make (P := Try.prog) w 22 9 i0 (.string ⟨#[]⟩) Try.underlying22 hi hz0 .i64 .i64 0 (n : Int) (by omega) (by omega) (by rw [hz2]; omega) (by omega)
  rw [hz1] at this
  simp only [Int.toNat_natCast, Nat.mul_one] at this
  exact this

theorem Owns.made (w : World) (B n : Nat) (hB : B ≤ w.heap.size) (hn : n ≤ 8192) : Owns (w.alloc (.cells (madeCells #[.string ⟨#[]⟩] n) 9)) B (.slice (some ⟨w.heap.size, 0, none⟩) 0 n) [] :=
  World.ownsRow_made w _ n hB (by unfold maxLen; omega) (by rw [size_madeCells]; omega)

set_option maxRecDepth 100000 in
set_option maxHeartbeats 4000000 in
theorem merge_any (a1 a2 : Option Addr) (c1 c2 : Nat) (ids : List ByteArray) (q : ByteArray → Bool) (w : World) (m : ids.length ≤ 4096) (hu : Pl.Up ids)
    (h1 : Strs w a1 (ids.filter q).length (Pl.get (ids.filter q))) (h2 : Strs w a2 (ids.filter fun x => !q x).length (Pl.get (ids.filter fun x => !q x))) :
    Calls Try.prog 15 #[.slice a1 (ids.filter q).length c1, .slice a2 (ids.filter fun x => !q x).length c2] w fun e w' => (∃ v, e = .returned v ∧ Owns w' w.heap.size v ids) ∧ Below w.heap.size w w' := by
  obtain ⟨A, hA⟩ : ∃ A, A = ids.filter q := ⟨_, rfl⟩
  obtain ⟨B, hB⟩ : ∃ B, B = ids.filter fun x => !q x := ⟨_, rfl⟩
  have hlen : A.length + B.length = ids.length := by rw [hA, hB]; exact Pl.halves_length ids q
  rw [← hA] at h1 ⊢
  rw [← hB] at h2 ⊢
  obtain ⟨la, hla⟩ : ∃ n, n = A.length := ⟨_, rfl⟩
  obtain ⟨lb, hlb⟩ : ∃ n, n = B.length := ⟨_, rfl⟩
  rw [← hla] at h1 hlen ⊢
  rw [← hlb] at h2 hlen ⊢
  have HA : Hid (A = ids.filter q) := hA
  have HB : Hid (B = ids.filter fun x => !q x) := hB
  have HLA : Hid (la = A.length) := hla
  have HLB : Hid (lb = B.length) := hlb
  have HLN : Hid (la + lb = ids.length) := hlen
  have ma : la + lb ≤ 4096 := by omega
  clear hA hB hla hlb hlen
  have hmk := make0 (la + lb) (by omega)
  have ec : ((la + lb : Nat) : Int) = (la : Int) + (lb : Int) := by omega
  rw [ec] at hmk
  clear ec
  go_enter Try.func15, Try.ntmps15
  go_wp2
  clear hmk
  go_loopg [5, 6, 7] ids.length (fun g v i j wr => ∃ (k x y : Nat), k ≤ ids.length ∧ g = ids.length - k ∧ Hid (x = Pl.cntQ q ids k) ∧ Hid (y = Pl.cntQ (fun x => !q x) ids k) ∧ x ≤ la ∧ y ≤ lb ∧ i = .int .i64 x ∧ j = .int .i64 y ∧
    Owns wr w.heap.size v (ids.take k) ∧ Below w.heap.size w wr)
  case atStart => exact ⟨0, 0, 0, Nat.zero_le _, rfl, (Pl.cntQ_zero _ _).symm, (Pl.cntQ_zero _ _).symm, Nat.zero_le _, Nat.zero_le _, rfl, rfl, (by simpa using Owns.made w _ (la + lb) (Nat.le_refl _) (by omega)), (Below.refl _ _).alloc (Nat.le_refl _) _⟩
  case round =>
    obtain ⟨k, x, y, hk, rfl, HX, HY, hx, hy, rfl, rfl, hOwn, hbel⟩ := hrel
    have hsz := hbel.size
    have hdl : (ids.take k).length ≤ 8192 := by have := List.length_take_le k ids; omega
    by_cases hlt : k < ids.length
    · have HK : Hid (k < ids.length) := hlt
      cases hq : q (Pl.get ids k) with
      | true =>
        obtain ⟨g1, g2⟩ := Pl.get_hit q ids k hlt hq
        rw [← HX.out, ← HA.out, ← HLA.out] at g1
        rw [← HX.out, ← HA.out] at g2
        obtain ⟨b, off, rfl, hc, _⟩ := h1 x g1
        rw [g2] at hc
        have d1 : wr.cell? ⟨b, off + x, none⟩ = some (.string (Pl.get ids k)) := by rw [hbel.cell (World.block_lt_of_cell? _ _ hc)]; exact hc
        have i1 : (x : Int) < (la : Int) := by omega
        have HX1 : Hid (x + 1 = Pl.cntQ q ids (k + 1)) := by show _ = _; rw [Pl.cntQ_succ _ _ _ hlt, if_pos hq, ← HX.out]
        have HY1 : Hid (y = Pl.cntQ (fun x => !q x) ids (k + 1)) := by show _ = _; rw [Pl.cntQ_succ _ _ _ hlt, if_neg (by simp [hq]), ← HY.out, Nat.add_zero]
        by_cases hy2 : y = lb
        · have i2 : ((y : Int) == (lb : Int)) = true := beq_iff_eq.2 (by omega)
          clear h1 h2 hc g2 hq hy2 hlt
          go_wp2
          go_quiet (fail)
          go_wp2_with (at_builtin; refine wpList_push (x := Pl.get ids k) hOwn hdl hsz rfl (.tmp 45) (.tmp 50) rfl rfl rfl ?_; intro v' w1 O1 B1)
          go_roundg (ids.length - (k + 1))
          case measure => have := HK.out; omega
          case rel => exact ⟨k + 1, x + 1, y, (by have := HK.out; omega), rfl, HX1, HY1, by omega, hy, by go_num, rfl, (by rw [Pl.take_snoc _ _ HK.out]; exact O1), (below_drewN hbel _).trans B1⟩
        · have i2 : ((y : Int) == (lb : Int)) = false := beq_eq_false_iff_ne.2 (by omega)
          have i3 : (y : Int) < (lb : Int) := by omega
          have l1 := (Pl.get_later (fun x => !q x) ids hu k hlt (by rw [← HY.out, ← HB.out, ← HLB.out]; omega)).2
          rw [← HY.out, ← HB.out] at l1
          obtain ⟨b2, off2, rfl, hc2, _⟩ := h2 y (by omega)
          have d2 : wr.cell? ⟨b2, off2 + y, none⟩ = some (.string (Pl.get B y)) := by rw [hbel.cell (World.block_lt_of_cell? _ _ hc2)]; exact hc2
          have l2 : (Op.bytesLess (Pl.get ids k).toList (Pl.get B y).toList || (Pl.get ids k).toList == (Pl.get B y).toList) = true := Pl.leq_of _ _ l1
          clear h1 h2 hc hc2 g2 hq hy2 hlt l1
          go_wp2
          go_quiet (fail)
          go_wp2_with (at_builtin; refine wpList_push (x := Pl.get ids k) hOwn hdl hsz rfl (.tmp 45) (.tmp 50) rfl rfl rfl ?_; intro v' w1 O1 B1)
          go_roundg (ids.length - (k + 1))
          case measure => have := HK.out; omega
          case rel => exact ⟨k + 1, x + 1, y, (by have := HK.out; omega), rfl, HX1, HY1, by omega, hy, by go_num, rfl, (by rw [Pl.take_snoc _ _ HK.out]; exact O1), (below_drewN hbel _).trans B1⟩
      | false =>
        obtain ⟨g1, g2⟩ := Pl.get_hit (fun x => !q x) ids k hlt (by simp [hq])
        rw [← HY.out, ← HB.out, ← HLB.out] at g1
        rw [← HY.out, ← HB.out] at g2
        obtain ⟨b, off, rfl, hc, _⟩ := h2 y g1
        rw [g2] at hc
        have d1 : wr.cell? ⟨b, off + y, none⟩ = some (.string (Pl.get ids k)) := by rw [hbel.cell (World.block_lt_of_cell? _ _ hc)]; exact hc
        have i1 : (y : Int) < (lb : Int) := by omega
        have i2 : ((y : Int) == (lb : Int)) = false := beq_eq_false_iff_ne.2 (by omega)
        have HX1 : Hid (x = Pl.cntQ q ids (k + 1)) := by show _ = _; rw [Pl.cntQ_succ _ _ _ hlt, if_neg (by simp [hq]), ← HX.out, Nat.add_zero]
        have HY1 : Hid (y + 1 = Pl.cntQ (fun x => !q x) ids (k + 1)) := by show _ = _; rw [Pl.cntQ_succ _ _ _ hlt, if_pos (by simp [hq]), ← HY.out]
        by_cases hx2 : x < la
        · have i3 : (x : Int) < (la : Int) := by omega
          have l1 := Pl.get_later q ids hu k hlt (by rw [← HX.out, ← HA.out, ← HLA.out]; omega)
          rw [← HX.out, ← HA.out] at l1
          obtain ⟨b2, off2, rfl, hc2, _⟩ := h1 x hx2
          have d2 : wr.cell? ⟨b2, off2 + x, none⟩ = some (.string (Pl.get A x)) := by rw [hbel.cell (World.block_lt_of_cell? _ _ hc2)]; exact hc2
          have l2 : (Op.bytesLess (Pl.get A x).toList (Pl.get ids k).toList || (Pl.get A x).toList == (Pl.get ids k).toList) = false := by
            refine Pl.not_leq_of _ _ l1.2 (fun e => ?_)
            have := Pl.ba_eq e
            rw [this, hq] at l1
            cases l1.1
          clear h1 h2 hc hc2 g2 hq hlt l1
          go_wp2
          go_quiet (fail)
          go_wp2_with (at_builtin; refine wpList_push (x := Pl.get ids k) hOwn hdl hsz rfl (.tmp 54) (.tmp 59) rfl rfl rfl ?_; intro v' w1 O1 B1)
          go_roundg (ids.length - (k + 1))
          case measure => have := HK.out; omega
          case rel => exact ⟨k + 1, x, y + 1, (by have := HK.out; omega), rfl, HX1, HY1, hx, by omega, rfl, by go_num, (by rw [Pl.take_snoc _ _ HK.out]; exact O1), (below_drewN hbel _).trans B1⟩
        · have i3 : decide ((x : Int) < (la : Int)) = false := by simp; omega
          clear h1 h2 hc g2 hq hlt
          go_wp2
          go_quiet (fail)
          go_wp2_with (at_builtin; refine wpList_push (x := Pl.get ids k) hOwn hdl hsz rfl (.tmp 54) (.tmp 59) rfl rfl rfl ?_; intro v' w1 O1 B1)
          go_roundg (ids.length - (k + 1))
          case measure => have := HK.out; omega
          case rel => exact ⟨k + 1, x, y + 1, (by have := HK.out; omega), rfl, HX1, HY1, hx, by omega, rfl, by go_num, (by rw [Pl.take_snoc _ _ HK.out]; exact O1), (below_drewN hbel _).trans B1⟩
    · obtain rfl : k = ids.length := by omega
      have e1 : x = la := by rw [HX.out, Pl.cntQ_full, ← HA.out, ← HLA.out]
      have e2 : y = lb := by rw [HY.out, Pl.cntQ_full, ← HB.out, ← HLB.out]
      clear h1 h2
      subst e1 e2
      clear HX HY HLA HLB
      have i1 : decide ((x : Int) < (x : Int)) = false := by simp
      go_wp2
      go_ret
      rw [List.take_length] at hOwn
      exact ⟨⟨_, rfl, hOwn⟩, hbel⟩
end Go.Proofs.Qxb6606080a
