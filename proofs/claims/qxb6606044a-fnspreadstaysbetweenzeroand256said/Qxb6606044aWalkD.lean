import Derived.Test.Qxb6606044aWalkC
import Derived.Deep.RegionWith
namespace Go.Proofs.Qxb6606044a
open Go.RowKit
set_option linter.unusedVariables false

def strideOf (len : Nat) (s : Int) : Nat := Pl.strd ((len : Int) / s).toNat
def ans (z : Nat → Int) (len : Nat) (s : Int) : Nat := spv (Pl.prs (smp z (strideOf len s)) (Pl.nOf len (strideOf len s))) (Pl.nOf len (strideOf len s))

theorem quo_bounds (len : Nat) (s : Int) (hlen : len ≤ 1048576) (hs : 1 ≤ s) : 0 ≤ (len : Int) / s ∧ (len : Int) / s ≤ 1048576 := by
  have h1 : 0 ≤ (len : Int) / s := Int.ediv_nonneg (by omega) (by omega)
  have h2 : (len : Int) / s ≤ (len : Int) := Int.ediv_le_self _ (by omega)
  omega

theorem nOf_le (len st : Nat) (h : 1 ≤ st) : Pl.nOf len st ≤ len := by
  unfold Pl.nOf
  rw [Nat.div_le_iff_le_mul_add_pred (by omega)]
  have : len * 1 ≤ st * len := by rw [Nat.mul_comm]; exact Nat.mul_le_mul_right _ h
  omega

theorem ans_ok (z : Nat → Int) (len : Nat) (s : Int) (hlen : len ≤ 1048576) : Fl.okR (ans z len s) := by
  unfold ans spv
  have hn := nOf_le len (strideOf len s) (Pl.strd_pos _)
  split
  · exact Fl.okR_one
  · have hb := Pl.tri_bound (Pl.nOf len (strideOf len s)) (by omega)
    exact (Fl.ratio_facts _ _ (Pl.prs_le _ _) (Pl.two_le_tri _ (by omega)) (by omega)).2.2.1

theorem spread_any (b off len cap : Nat) (s : Int) (z : Nat → Int) (w : World) (hlen : len ≤ 1048576) (hs : 1 ≤ s)
    (hc : ∀ i, i < len → w.cell? ⟨b, off + i, none⟩ = some (.int .u8 (z i))) (hz : ∀ i, i < len → 0 ≤ z i ∧ z i < 256) :
    Calls Try.prog 13 #[.slice (some ⟨b, off, none⟩) len cap, .int .i64 s] w fun e w' => e = .returned (.float .f64 (ans z len s)) ∧ Below w.heap.size w w' := by
  obtain ⟨q0, q1⟩ := quo_bounds len s hlen hs
  have h1 := Pl.strd_pos ((len : Int) / s).toNat
  have h2 := Pl.strd_le ((len : Int) / s).toNat
  refine spread_some b off len cap (strideOf len s) s z w hlen hs q0 q1 h1 (by unfold strideOf; omega) ?_ hc hz
  unfold strideOf Pl.strd
  by_cases h : (len : Int) / s ≤ 1
  · left
    refine ⟨h, ?_⟩
    rw [if_pos (by omega)]; decide
  · right
    refine ⟨by omega, ?_⟩
    rw [if_neg (by omega)]
    have := Pl.or_one_i64 ((len : Int) / s).toNat (by omega)
    rwa [Int.toNat_of_nonneg q0] at this

theorem model_any (b off len cap : Nat) (s : Int) (z : Nat → Int) (w : World) (hlen : len ≤ 1048576) (hs : 1 ≤ s)
    (hc : ∀ i, i < len → w.cell? ⟨b, off + i, none⟩ = some (.int .u8 (z i))) (hz : ∀ i, i < len → 0 ≤ z i ∧ z i < 256) :
    Calls Try.prog 9 #[.slice (some ⟨b, off, none⟩) len cap, .int .i64 s] w fun e w' => e = .returned (.float .f64 (ans z len s)) ∧ Below w.heap.size w w' := by
  obtain ⟨q0, q1⟩ := quo_bounds len s hlen hs
  exact model_some b off len cap ((len : Int) / s).toNat (strideOf len s) s z w hlen hs (Int.toNat_of_nonneg q0).symm (by omega) rfl hc hz

set_option maxHeartbeats 1000000 in
theorem spread_nil (s : Int) (w : World) (hs : 1 ≤ s) :
    Calls Try.prog 13 #[.slice none 0 0, .int .i64 s] w fun e w' => e = .returned (.float .f64 4607182418800017408) ∧ Below w.heap.size w w' := by
  have h31 := rz31
  go_enter Try.func13, Try.ntmps13
  go_wp2
  clear h31
  refine wp_loop_rounds 1 ?_
  rw [rounds_succ]
  go_wp2
  go_ret
  exact ⟨rfl, (Below.refl _ _).alloc (Nat.le_refl _) _⟩

set_option maxHeartbeats 1000000 in
theorem model_nil (s : Int) (w : World) (hs : 1 ≤ s) :
    Calls Try.prog 9 #[.slice none 0 0, .int .i64 s] w fun e w' => e = .returned (.float .f64 4607182418800017408) ∧ Below w.heap.size w w' := by
  go_enter Try.func9, Try.ntmps9
  go_wp2
  go_ret
  exact ⟨rfl, Below.refl _ _⟩

set_option maxHeartbeats 1000000 in
theorem allEqual_any (b off len cap : Nat) (z : Nat → Int) (w : World) (hlen : len ≤ 1048576) (hl1 : 1 ≤ len)
    (hc : ∀ i, i < len → w.cell? ⟨b, off + i, none⟩ = some (.int .u8 (z i))) :
    Calls Try.prog 12 #[.slice (some ⟨b, off, none⟩) len cap] w fun e w' => ∃ r : Bool, e = .returned (.bool r) ∧ (r = true → ∀ i, i < len → z i = z 0) ∧ Below w.heap.size w w' := by
  go_enter Try.func12, Try.ntmps12
  go_wp2
  go_loopg [3] (len - 1) (fun g i wr => ∃ k : Nat, 1 ≤ k ∧ k ≤ len ∧ g = len - k ∧ i = .int .i64 k ∧ (∀ i, i < k → z i = z 0) ∧ Below w.heap.size w wr)
  case atStart => exact ⟨1, by omega, by omega, rfl, rfl, fun i hi => by rw [show i = 0 by omega], Below.refl _ _⟩
  case round =>
    obtain ⟨k, hk1, hk, rfl, rfl, heq, hbel⟩ := hrel
    have HE : Hid (∀ i, i < k → z i = z 0) := heq
    clear heq
    by_cases hlt : k < len
    · have c1 : wr.cell? ⟨b, off + k, none⟩ = some (.int .u8 (z k)) := by
        have h := hc k hlt
        rw [hbel.cell (World.block_lt_of_cell? _ _ h), h]
      have c0 : wr.cell? ⟨b, off, none⟩ = some (.int .u8 (z 0)) := by
        have h := hc 0 (by omega)
        rw [Nat.add_zero] at h
        rw [hbel.cell (World.block_lt_of_cell? _ _ h), h]
      have i0 : (0 : Int) < (len : Int) := by omega
      clear hc
      by_cases he : z k = z 0
      · have hne : (z k != z 0) = false := by simp [he]
        have HK : Hid (z k = z 0) := he
        clear he
        go_wp2
        go_quiet (fail)
        go_wp2
        go_roundg (len - (k + 1))
        case measure => omega
        case rel => exact ⟨k + 1, by omega, by omega, rfl, by go_num, fun i hi => by
          by_cases e : i = k
          · subst e; exact HK.out
          · exact HE.out i (by omega), below_drewN hbel _⟩
      · have hne : (z k != z 0) = true := by simpa using he
        clear he
        go_wp2
        go_quiet (fail)
        go_wp2
        go_ret
        exact ⟨false, rfl, (fun h => by cases h), below_drewN hbel _⟩
    · clear hc
      go_wp2
      go_ret
      exact ⟨true, rfl, fun _ i hi => HE.out i (by omega), hbel⟩
end Go.Proofs.Qxb6606044a
