import Derived.Test.Qxb6606044aWalkA
import Derived.Test.Qxb6606044aPlain
import Derived.Test.Qxb6606044aFloat
namespace Go.Proofs.Qxb6606044a
open Go.RowKit
set_option linter.unusedVariables false
def zu32 : Array Value := Array.replicate 256 (.int .u32 0)
def zi64 : Array Value := Array.replicate 256 (.int .i64 0)
theorem rz31 (w : World) : Sem.run Try.prog (zeroValue 31) w = .ok (.agg zu32) w := by kernel_rfl
theorem rz29 (w : World) : Sem.run Try.prog (zeroValue 29) w = .ok (.agg zi64) w := by kernel_rfl

theorem row_zu32 (w : World) : (w.alloc (.cells zu32 31)).rowIs w.heap.size 31 256 (fun _ => .int .u32 0) := by
  have := World.rowIs_alloc w zu32 31 (fun _ => .int .u32 0) (fun i hi => by unfold zu32 at *; simp at hi; simp [hi])
  simpa [zu32] using this
theorem row_zi64 (w : World) : (w.alloc (.cells zi64 29)).rowIs w.heap.size 29 256 (fun _ => .int .i64 0) := by
  have := World.rowIs_alloc w zi64 29 (fun _ => .int .i64 0) (fun i hi => by unfold zi64 at *; simp at hi; simp [hi])
  simpa [zi64] using this

theorem ret_float {k : FloatKind} {a b : Nat} (h : a = b) : Ending.returned (.float k a) = .returned (.float k b) := by rw [h]

/-- the samples, as naturals -/
def smp (z : Nat → Int) (st : Nat) (j : Nat) : Nat := (z (j * st)).toNat

/-- what spread answers, as bits -/
def spv (P k : Nat) : Nat := if k < 2 then 4607182418800017408 else Fl.ratio P (Pl.tri k)

set_option maxHeartbeats 1000000 in
theorem spread_some (b off len cap st : Nat) (s : Int) (z : Nat → Int) (w : World) (hlen : len ≤ 1048576) (hs : 1 ≤ s)
    (hq0 : 0 ≤ (len : Int) / s) (hq1 : (len : Int) / s ≤ 1048576) (hst : 1 ≤ st) (hst2 : st ≤ 1048577)
    (hor : ((len : Int) / s ≤ 1 ∧ bits .or .i64 1 1 = (st : Int)) ∨ (1 < (len : Int) / s ∧ bits .or .i64 ((len : Int) / s) 1 = (st : Int)))
    (hc : ∀ i, i < len → w.cell? ⟨b, off + i, none⟩ = some (.int .u8 (z i))) (hz : ∀ i, i < len → 0 ≤ z i ∧ z i < 256) :
    Calls Try.prog 13 #[.slice (some ⟨b, off, none⟩) len cap, .int .i64 s] w fun e w' => e = .returned (.float .f64 (spv (Pl.prs (smp z st) (Pl.nOf len st)) (Pl.nOf len st))) ∧ Below w.heap.size w w' := by
  have h31 := rz31
  rcases hor with ⟨hq, hor⟩ | ⟨hq, hor⟩
  all_goals
    go_enter Try.func13, Try.ntmps13
    go_wp2
    clear h31 hor hq hq0 hq1
    go_loopg [7, 8, 9] (len + st) (fun g n p i wr => ∃ k m : Nat, Hid (m = k * st) ∧ m < len + st ∧ k ≤ m ∧ k ≤ len ∧ g = len + st - m ∧ n = .int .i64 k ∧ p = .int .i64 (Pl.prs (smp z st) k) ∧ i = .int .i64 m ∧
      wr.rowIs w.heap.size 31 256 (fun v => .int .u32 (Pl.cnt (smp z st) k v)) ∧ Below w.heap.size w wr)
    case atStart => exact ⟨0, 0, (Nat.zero_mul _).symm, by omega, by omega, by omega, rfl, rfl, rfl, rfl, (row_zu32 w).congr (fun j _ => rfl), (Below.refl _ _).alloc (Nat.le_refl _) _⟩
    case round =>
      obtain ⟨k, m, hm, hml, hkm, hkl, rfl, rfl, rfl, rfl, hrow, hbel⟩ := hrel
      by_cases hlt : m < len
      · have hkb := Pl.tri_bound k (by omega)
        have hpb := Pl.prs_le (smp z st) k
        have hcb := Pl.cnt_le (smp z st) k (smp z st k)
        obtain ⟨y, hy⟩ : ∃ y, y = smp z st k := ⟨_, rfl⟩
        have hzm : z m = (y : Int) := by have := hz m hlt; rw [hy]; unfold smp; rw [← hm.out]; omega
        have hy256 : y < 256 := by have := hz m hlt; omega
        have c1 : wr.cell? ⟨b, off + m, none⟩ = some (.int .u8 (y : Int)) := by
          have h := hc m hlt
          rw [hbel.cell (World.block_lt_of_cell? _ _ h), h, hzm]
        have c2 : wr.cell? ⟨w.heap.size, y, none⟩ = some (.int .u32 (Pl.cnt (smp z st) k y)) := hrow.cell hy256
        have c3 : wr.frozen? ⟨w.heap.size, y, none⟩ = false := hrow.frozen y
        rw [← hy] at hcb
        have HY : Hid (y = smp z st k) := hy
        clear hy hc hz hzm
        go_wp2
        go_roundg (len + st - (m + st))
        case measure => omega
        case rel =>
          have hY := HY.out
          refine ⟨k + 1, m + st, (by show m + st = (k + 1) * st; rw [hm.out, Nat.add_mul, Nat.one_mul]), by omega, by omega, by omega, rfl, by go_num, ?_, by go_num, (hrow.set y _).congr (fun j hj => ?_), hbel.setCell (Nat.le_refl _) _⟩
          · rw [show Pl.prs (smp z st) (k + 1) = Pl.prs (smp z st) k + Pl.cnt (smp z st) k (smp z st k) from rfl, ← hY]; go_num
          · rw [show Pl.cnt (smp z st) (k + 1) j = Pl.cnt (smp z st) k j + (if j = smp z st k then 1 else 0) from rfl, ← hY]
            by_cases e : j = y
            · subst e; rw [if_pos rfl, if_pos rfl]; go_num
            · rw [if_neg e, if_neg e]; rfl
      · have hk : k = Pl.nOf len st := by
          unfold Pl.nOf
          have h1 := hm.out
          refine (Nat.div_eq_of_lt_le ?_ ?_).symm
          · rw [← h1]; omega
          · rw [Nat.add_mul, Nat.one_mul, ← h1]; omega
        have HK : Hid (k = Pl.nOf len st) := hk
        clear hk
        by_cases hk2 : k < 2
        · have hv : spv (Pl.prs (smp z st) k) k = 4607182418800017408 := by unfold spv; rw [if_pos hk2]
          have HV : Hid (spv (Pl.prs (smp z st) k) k = 4607182418800017408) := hv
          clear hv hrow hc hz
          go_wp2
          go_ret
          exact ⟨ret_float (by rw [← HK.out, HV.out]), hbel⟩
        · have hv : spv (Pl.prs (smp z st) k) k = Fl.ratio (Pl.prs (smp z st) k) (Pl.tri k) := by unfold spv; rw [if_neg hk2]
          have HV : Hid (spv (Pl.prs (smp z st) k) k = Fl.ratio (Pl.prs (smp z st) k) (Pl.tri k)) := hv
          have hkb := Pl.tri_bound k (by omega)
          have hpb := Pl.prs_le (smp z st) k
          obtain ⟨f1, f2, _, _⟩ := Fl.ratio_facts (Pl.prs (smp z st) k) (Pl.tri k) hpb (Pl.two_le_tri k (by omega)) (by omega)
          have hti := Pl.tri_int k
          have g1 := Pl.tri_int_nonneg k
          have g2 := Pl.tri_int_le k (by omega)
          have q1 : ∀ w : World, (binOp .mul 25 (.float .f64 4643211215818981376) (.float .f64 (floatOfInt .f64 (Pl.prs (smp z st) k : Int)))).run Try.prog w = .ok (.float .f64 (Fl.ratioM (Pl.prs (smp z st) k))) w := fun w => run_float_arith w .mul 25 .f64 _ _ _ f1
          have q2 : ∀ w : World, (binOp .quo 25 (.float .f64 (Fl.ratioM (Pl.prs (smp z st) k))) (.float .f64 (floatOfInt .f64 (Pl.tri k : Int)))).run Try.prog w = .ok (.float .f64 (Fl.ratio (Pl.prs (smp z st) k) (Pl.tri k))) w := fun w => run_float_arith w .quo 25 .f64 _ _ _ f2
          clear hv hrow hc hz f1 f2
          go_wp2
          go_ret
          exact ⟨ret_float (by rw [← HK.out, HV.out]), hbel⟩
end Go.Proofs.Qxb6606044a
