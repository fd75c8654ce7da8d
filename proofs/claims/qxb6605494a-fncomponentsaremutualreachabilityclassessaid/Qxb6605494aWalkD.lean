import Derived.Test.Qxb6605494aWalkC
import Derived.Test.Qxb6605494aBits
namespace Go.Proofs.Qxb6605494a
open Go.RowKit
set_option linter.unusedVariables false

theorem ret_b {a b : Bool} (h : a = b) : Ending.returned (.bool a) = .returned (.bool b) := by rw [h]

theorem shl_bit (i : Nat) (h : i < 64) : IntKind.u64.wrap ((2 : Int) ^ i) = ((2 ^ i : Nat) : Int) := by
  rw [IntKind.wrap_u64]
  have h1 : 2 ^ i < 2 ^ 64 := Nat.pow_lt_pow_right (by omega) h
  have e : ((2 : Int) ^ i) = ((2 ^ i : Nat) : Int) := by simp
  rw [e]
  generalize (2 : Nat) ^ i = t at *
  omega

/-- the mask of bit q%64, under a name -/
theorem mask_of (q : Nat) : ∃ bv : Nat, Hid (bv = 2 ^ (q % 64)) ∧ bv < 18446744073709551616 ∧ IntKind.u64.wrap ((2 : Int) ^ (q % 64)) = (bv : Int) := by
  have h1 : 2 ^ (q % 64) < 2 ^ 64 := Nat.pow_lt_pow_right (by omega) (by omega)
  exact ⟨2 ^ (q % 64), rfl, by omega, shl_bit _ (by omega)⟩

set_option maxHeartbeats 1000000 in
theorem reaches_any (a : Option Addr) (n W N c p q lo : Nat) (wd : Nat → Nat) (w : World) (hn : n ≤ 4096) (hW : Hid (W = (n + 63) / 64)) (hW2 : W ≤ 64) (hNN : Hid (N = n * W)) (hN : N ≤ 262144) (hp : p < n) (hq : q < n)
    (hwd : ∀ i, wd i < 18446744073709551616) (h : Row .u64 lo w a N (fun i => (wd i : Int))) :
    Calls Try.prog 14 #[.slice a N c, .int .i64 W, .int .i64 p, .int .i64 q] w fun e w' => e = .returned (.bool (Bt.bt wd W p q)) ∧ w' = w := by
  obtain ⟨pw, hpw'⟩ : ∃ x, x = p * W := ⟨_, rfl⟩
  have hpw : (p : Int) * (W : Int) = (pw : Int) := by rw [hpw', Int.natCast_mul]
  have hlt : pw + q / 64 < N := by
    have h1 : q / 64 < W := by have := hW.out; omega
    have h2 : (p + 1) * W ≤ n * W := Nat.mul_le_mul_right _ hp
    rw [Nat.add_mul, Nat.one_mul] at h2
    have := hNN.out
    omega
  obtain ⟨b, off, rfl, _, hc⟩ := h (pw + q / 64) hlt
  obtain ⟨wv, hwv⟩ : ∃ x, x = wd (pw + q / 64) := ⟨_, rfl⟩
  have hwl := hwd (pw + q / 64)
  have hc' : w.cell? ⟨b, off + (pw + q / 64), none⟩ = some (.int .u64 ((wd (pw + q / 64) : Nat) : Int)) := hc
  rw [← hwv] at hc' hwl
  clear hc
  obtain ⟨bv, HB, hbl, hsh⟩ := mask_of q
  have hand := u64_and_nat wv bv hwl hbl
  obtain ⟨av, hav⟩ : ∃ x, x = wv &&& bv := ⟨_, rfl⟩
  rw [← hav] at hand
  have hres : Hid (((av : Int) != 0) = Bt.bt wd W p q) := by
    show ((av : Int) != 0) = Bt.bt wd W p q
    unfold Bt.bt
    rw [← hpw', ← hwv]
    have := Bt.and_bit wv (q % 64)
    rw [← HB.out, ← hav] at this
    cases ht : wv.testBit (q % 64) with
    | false =>
      have e := this.2 ht
      rw [e]; rfl
    | true =>
      have e : av ≠ 0 := fun e => by rw [this.1 e] at ht; cases ht
      rw [bne_iff_ne]; omega
  clear hpw' h hwv hav hwd
  go_enter Try.func14, Try.ntmps14
  go_wp2
  go_ret
  exact ⟨ret_b hres.out, rfl⟩

/-! ### the search: zzGraphB1Reach -/
/-- the edges of a place -/
def sOf (L : Nat → Nat) (Z : Nat → Nat → Int) (p : Nat) : List Nat := (List.range (L p)).map fun k => (Z p k).toNat

theorem sOf_len (L : Nat → Nat) (Z : Nat → Nat → Int) (p : Nat) : (sOf L Z p).length = L p := by simp [sOf]
theorem sOf_get (L : Nat → Nat) (Z : Nat → Nat → Int) (p k : Nat) (h : k < L p) : (sOf L Z p)[k]? = some (Z p k).toNat := by simp [sOf, h]
theorem sOf_lt {n : Nat} {L : Nat → Nat} {Z : Nat → Nat → Int} (h : ∀ p, p < n → ∀ k, k < L p → 0 ≤ Z p k ∧ Z p k < n) (p : Nat) (hp : p < n) (t : Nat) (ht : t ∈ sOf L Z p) : t < n := by
  simp only [sOf, List.mem_map, List.mem_range] at ht
  obtain ⟨k, hk, rfl⟩ := ht
  have := h p hp k hk
  omega

/-- v owns the places K, as int32 -/
def OwnI (w : World) (base : Nat) (v : Value) (K : List Nat) : Prop := w.ownsRow base 21 1 v K.length (K.map fun x : Nat => Value.int .i32 (x : Int))

theorem OwnI.last {w : World} {base g cap p : Nat} {K : List Nat} (h : OwnI w base (.slice (some ⟨g, 0, none⟩) (K.length + 1) cap) (K ++ [p])) : w.cell? ⟨g, K.length, none⟩ = some (.int .i32 (p : Int)) := by
  have h' : w.ownsRow base 21 1 (.slice (some ⟨g, 0, none⟩) (K.length + 1) cap) (K.length + 1) ((K ++ [p]).map fun x : Nat => Value.int .i32 (x : Int)) := by
    have := h; unfold OwnI at this; rwa [List.length_append] at this
  rw [h'.cellAt K.length (by omega)]
  simp

theorem OwnI.pop {w : World} {base g cap p : Nat} {K : List Nat} (h : OwnI w base (.slice (some ⟨g, 0, none⟩) (K.length + 1) cap) (K ++ [p])) : OwnI w base (.slice (some ⟨g, 0, none⟩) K.length cap) K := by
  unfold OwnI at *
  rw [List.length_append, List.map_append] at h
  exact ownsRow_pop (by simp) h

theorem wpList_pushI {ops : Array Oper} {rest : List Oper} {o : Oper} {a : Act} {Q : Exit → Act → World → Prop} {wc : World} {B : Nat} {v : Value} {K : List Nat} {x : Nat}
    (A : OwnI wc B v K) (hl : K.length ≤ 8192) (hB : B ≤ wc.heap.size) (hgd : o.guard = none) (s y : Operand) (ho : o.op = .call { callee := .builtin .append, args := #[s, y], argTypes := #[36, 36] })
    (hs : a.eval s = v) (hx : a.eval y = .slice (some ⟨wc.heap.size, 0, none⟩) 1 1)
    (h : ∀ g cap w', OwnI w' B (.slice (some ⟨g, 0, none⟩) (K.length + 1) cap) (K ++ [x]) → Below B wc w' → wpList Try.prog ops Q rest (a.put o.dst (.slice (some ⟨g, 0, none⟩) (K.length + 1) cap)) w') :
    wpList Try.prog ops Q (o :: rest) a (wc.alloc (.cells #[.int .i32 (x : Int)] 21)) := by
  obtain ⟨i0, hi, hz0, hz1, hz2⟩ := info_parts Try.info21
  refine wpList_append_own _ hgd s y 36 ho B 21 i0 _ 1 4 Try.underlying36 hi hz0 hz1 hz2 rfl (by decide) v K.length (K.map fun x : Nat => Value.int .i32 (x : Int)) hs (World.ownsRow.alloc A _) ⟨wc.heap.size, 0, none⟩ 1 1 [.int .i32 (x : Int)] hx rfl (cell_one_new _ _ _) (fun u hu => by simp at hu; subst hu; rfl) (by unfold maxLen; omega) (by omega) (by simp; omega) ?_
  intro v' w' h1 h2 h3
  have hb : Below B wc w' := ((Below.refl B wc).alloc hB _).grown h2 (by simp; omega) (fun k hk => (A.lt k hk).1)
  rcases h1.2 with ⟨e, _⟩ | ⟨g, cap, cur, rfl, r⟩
  · exfalso; have := (h3.1 e).2; omega
  · refine h g cap w' ?_ hb
    unfold OwnI; rw [List.length_append, List.map_append]; exact h1

theorem OwnI.fits {w : World} {base g n cap : Nat} {K : List Nat} (h : OwnI w base (.slice (some ⟨g, 0, none⟩) n cap) K) : K.length ≤ cap := by
  rcases h.2 with ⟨e, _⟩ | ⟨g', cap', cur, e, _, _, hc, _⟩
  · cases e
  · cases e; exact hc

theorem OwnI.setBelow {w : World} {base : Nat} {v : Value} {K : List Nat} (h : OwnI w base v K) {a : Addr} (ha : a.block < base) (u : Value) : OwnI (w.setCell a u) base v K := ownsRow_setCell_below h ha u

theorem make0I (n : Nat) (hn : n ≤ 8192) (w : World) : (Instr.makeSlice 36 (.int .i64 0) (.int .i64 (n : Int))).run Try.prog w = .ok (.slice (some ⟨w.heap.size, 0, none⟩) 0 n) (w.alloc (.cells (madeCells #[.int .i32 0] n) 21)) := by
  obtain ⟨i0, hi, hz0, hz1, hz2⟩ := info_parts Try.info21
  have := run_make (P := Try.prog) w 36 21 i0 (.int .i32 0) Try.underlying36 hi hz0 .i64 .i64 0 (n : Int) (by omega) (by omega) (by rw [hz2]; omega) (by omega)
  rw [hz1] at this
  simp only [Int.toNat_natCast, Nat.mul_one] at this
  exact this

theorem OwnI.made (w : World) (B n : Nat) (hB : B ≤ w.heap.size) (hn : n ≤ 8192) : OwnI (w.alloc (.cells (madeCells #[.int .i32 0] n) 21)) B (.slice (some ⟨w.heap.size, 0, none⟩) 0 n) [] :=
  World.ownsRow_made w _ n hB (by unfold maxLen; omega) (by rw [size_madeCells]; omega)

theorem Try.info42 : (Try.prog.info? 42).map (fun i => (i.zero, i.size, i.bytes)) = some (some (.int .u64 0), 1, 8) := by kernel_rfl

theorem or_lt (a b : Nat) (ha : a < 18446744073709551616) (hb : b < 18446744073709551616) : a ||| b < 18446744073709551616 := Nat.or_lt_two_pow (n := 64) ha hb

/-- what zzGraphB1Reach leaves -/
def ReachPost (n N : Nat) (W : Nat) (s : Nat → List Nat) (w : World) (e : Ending) (w' : World) : Prop :=
  ∃ (c : Nat) (wd : Nat → Nat), e = .returned (.slice (some ⟨w.heap.size, 0, none⟩) N c) ∧ Row .u64 w.heap.size w' (some ⟨w.heap.size, 0, none⟩) N (fun i => (wd i : Int)) ∧ (∀ i, wd i < 18446744073709551616) ∧
    (∀ p q, p < n → q < n → (Bt.bt wd W p q = true ↔ Tj.Rch s p q)) ∧ Below w.heap.size w w'

set_option maxRecDepth 100000 in
set_option maxHeartbeats 8000000 in
theorem reach_any (a : Option Addr) (n W N c lo : Nat) (A : Nat → Option Addr) (L C : Nat → Nat) (Z : Nat → Nat → Int) (w : World) (hn : n ≤ 4096) (hWW : Hid (W = (n + 63) / 64)) (hW2 : W ≤ 64) (hNN : Hid (N = n * W)) (hN : N ≤ 262144)
    (h : Mat lo w a n A L C Z) (hL : ∀ i, i < n → L i ≤ 1048576) (hZ : ∀ p, p < n → ∀ k, k < L p → 0 ≤ Z p k ∧ Z p k < n) :
    Calls Try.prog 13 #[.int .i64 n, .slice a n c] w (ReachPost n N W (sOf L Z) w) := by
  have hW1 : ((n : Int) + 63) / 64 = (W : Int) := by rw [hWW.out]; omega
  have hN1 : (n : Int) * (W : Int) = (N : Int) := by rw [hNN.out, Int.natCast_mul]
  have hmk := run_make_row' (P := Try.prog) 33 42 (.int .u64 0) 8 Try.underlying33 Try.info42 rfl .i64 .i64 N (by omega) (by omega)
  have hm0 := make0I n (by omega)
  have hsl : ∀ q, q < n → ∀ t ∈ sOf L Z q, t < n := fun q hq t ht => sOf_lt hZ q hq t ht
  go_enter Try.func13, Try.ntmps13
  go_wp2
  rw [hW1]
  clear hmk hm0 hN1 hW1
  go_loopg [7, 8] n (fun g st s wr => ∃ (src : Nat) (wd : Nat → Nat) (gb cap : Nat), src ≤ n ∧ g = n - src ∧ s = .int .i64 src ∧ st = .slice (some ⟨gb, 0, none⟩) 0 cap ∧ OwnI wr (w.heap.size + 1) (.slice (some ⟨gb, 0, none⟩) 0 cap) [] ∧
    wr.rowIs w.heap.size 42 N (fun i => .int .u64 (wd i : Int)) ∧ (∀ i, wd i < 18446744073709551616) ∧ Hid (∀ p, p < src → ∀ q, q < n → (Bt.bt wd W p q = true ↔ Tj.Rch (sOf L Z) p q)) ∧ Hid (∀ p, src ≤ p → ∀ q, q < n → Bt.bt wd W p q = false) ∧ Below w.heap.size w wr ∧ w.heap.size + 1 ≤ wr.heap.size)
  case atStart =>
    refine ⟨0, fun _ => 0, w.heap.size + 1, n, Nat.zero_le _, rfl, rfl, rfl, ?_, ((World.rowIs_made w _ N 42).alloc _).congr (fun j _ => rfl), (fun i => by show 0 < _; decide), (fun p hp => absurd hp (Nat.not_lt_zero _)), (fun p _ q _ => by simp [Bt.bt]), ((Below.refl _ _).alloc (Nat.le_refl _) _).alloc (by simp) _, by simp⟩
    have := OwnI.made (w.alloc (.cells (madeCells #[.int .u64 0] N) 42)) (w.heap.size + 1) n (by simp) (by omega)
    simpa using this
  case round =>
    obtain ⟨src, wd, gb, cap, hsrc, rfl, rfl, rfl, hO, hrow, hwd, HP, HF, hbel, hsz⟩ := hrel
    by_cases hlt : src < n
    · obtain ⟨rr, hrr⟩ : ∃ x, x = src * W := ⟨_, rfl⟩
      have hrI : (src : Int) * (W : Int) = (rr : Int) := by rw [hrr, Int.natCast_mul]
      have hidx : ∀ t, t < n → rr + t / 64 < N := by
        intro t ht
        have h1 : t / 64 < W := by have := hWW.out; omega
        have h2 : (src + 1) * W ≤ n * W := Nat.mul_le_mul_right _ hlt
        rw [Nat.add_mul, Nat.one_mul] at h2
        have := hNN.out
        omega
      have hi0 := hidx src hlt
      have HRR : Hid (rr = src * W) := hrr
      obtain ⟨wv, hwv⟩ : ∃ x, x = wd (rr + src / 64) := ⟨_, rfl⟩
      have hwl := hwd (rr + src / 64)
      have hc0 : wr.cell? ⟨w.heap.size, rr + src / 64, none⟩ = some (.int .u64 ((wd (rr + src / 64) : Nat) : Int)) := hrow.cell hi0
      rw [← hwv] at hc0 hwl
      have hf0 : wr.frozen? ⟨w.heap.size, rr + src / 64, none⟩ = false := hrow.frozen _
      obtain ⟨bv, HBV, hbl, hsh⟩ := mask_of src
      have hor := u64_or_nat wv bv hwl hbl
      obtain ⟨ov, hov⟩ : ∃ x, x = wv ||| bv := ⟨_, rfl⟩
      rw [← hov] at hor
      have HOV : Hid (wd (rr + src / 64) ||| 2 ^ (src % 64) = ov) := by show _ = _; rw [← hwv, ← HBV.out, hov]
      clear hrr hwv hov
      have hO2 := hO.setBelow (a := ⟨w.heap.size, rr + src / 64, none⟩) (by show w.heap.size < w.heap.size + 1; omega) (.int .u64 (ov : Int))
      have hsz2 : w.heap.size + 1 ≤ (wr.setCell ⟨w.heap.size, rr + src / 64, none⟩ (.int .u64 (ov : Int))).heap.size := by rw [Deep.nblk_setCell]; exact hsz
      have hrow2 : (wr.setCell ⟨w.heap.size, rr + src / 64, none⟩ (.int .u64 (ov : Int))).rowIs w.heap.size 42 N (fun i => .int .u64 (Bt.sb wd W src src i : Int)) := by
        refine (hrow.set (rr + src / 64) (.int .u64 (ov : Int))).congr (fun j _ => ?_)
        unfold Bt.sb Tj.upd
        rw [← HRR.out]
        by_cases e : j = rr + src / 64
        · rw [if_pos e, if_pos e, HOV.out]
        · rw [if_neg e, if_neg e]
      have hb2 : Below w.heap.size w (wr.setCell ⟨w.heap.size, rr + src / 64, none⟩ (.int .u64 (ov : Int))) := hbel.setCell (Nat.le_refl _) _
      clear hrow hO hbel
      go_upto_region 9 with (fail)
      generalize wr.setCell ⟨w.heap.size, rr + src / 64, none⟩ (.int .u64 (ov : Int)) = W2 at hO2 hrow2 hb2 hsz2 ⊢
      clear hc0 hf0 hor hsh hi0
      go_wp2_with (at_builtin; refine wpList_pushI (x := src) hO2 (by decide) hsz2 rfl (.tmp 46) (.tmp 49) rfl rfl rfl ?_; intro g1 cap1 w1 O1 B1)
      have HB0 : ∀ x, x < n → Bt.bt (Bt.sb wd W src src) W src x = decide (x = src) := by
        intro x hx
        have e := Bt.bt_sb wd n src src src x hlt hx
        rw [← hWW.out] at e
        rw [e, HF.out src (Nat.le_refl _) x hx]; simp
      have HS0 : Bt.Srch (sOf L Z) n src (Bt.bt (Bt.sb wd W src src) W src) [src] := Bt.Srch.start hlt HB0
      have HP0 : Hid (∀ p, p < src → ∀ q, q < n → (Bt.bt (Bt.sb wd W src src) W p q = true ↔ Tj.Rch (sOf L Z) p q)) := by
        intro p hp q hq
        have e := Bt.bt_sb wd n src src p q hlt hq
        rw [← hWW.out] at e
        rw [e, show decide (p = src) = false from by simp; omega]
        simpa using HP.out p hp q hq
      have HF0 : Hid (∀ p, src + 1 ≤ p → ∀ q, q < n → Bt.bt (Bt.sb wd W src src) W p q = false) := by
        intro p hp q hq
        have e := Bt.bt_sb wd n src src p q hlt hq
        rw [← hWW.out] at e
        rw [e, show decide (p = src) = false from by simp; omega, HF.out p (by omega) q hq]; rfl
      have hrow1 : w1.rowIs w.heap.size 42 N (fun i => .int .u64 (Bt.sb wd W src src i : Int)) := hrow2.of_block (B1.block _ (by omega))
      have hb1 : Below w.heap.size w w1 := hb2.trans (B1.mono (by omega))
      have hs1 : w.heap.size + 1 ≤ w1.heap.size := Nat.le_trans hsz2 B1.size
      have hwd1 := Bt.sb_lt wd W src src hwd
      clear hO2 hrow2 hb2 hsz2 B1 hsz HB0 HP HF hwd hwl
      go_loopg [7] (2 * Bt.cntB (Bt.bt (Bt.sb wd W src src) W src) n + 1) (fun g st wr => ∃ (K : List Nat) (wd : Nat → Nat) (gb cap : Nat), g = 2 * Bt.cntB (Bt.bt wd W src) n + K.length ∧ st = .slice (some ⟨gb, 0, none⟩) K.length cap ∧ OwnI wr (w.heap.size + 1) (.slice (some ⟨gb, 0, none⟩) K.length cap) K ∧
        wr.rowIs w.heap.size 42 N (fun i => .int .u64 (wd i : Int)) ∧ (∀ i, wd i < 18446744073709551616) ∧ Bt.Srch (sOf L Z) n src (Bt.bt wd W src) K ∧ Hid (∀ p, p < src → ∀ q, q < n → (Bt.bt wd W p q = true ↔ Tj.Rch (sOf L Z) p q)) ∧ Hid (∀ p, src + 1 ≤ p → ∀ q, q < n → Bt.bt wd W p q = false) ∧ Below w.heap.size w wr ∧ w.heap.size + 1 ≤ wr.heap.size)
      case atStart => exact ⟨[src], _, g1, cap1, rfl, rfl, O1, hrow1, hwd1, HS0, HP0, HF0, hb1, hs1⟩
      case round =>
        clear hrow1 hb1 hs1 hwd1 HS0 HP0 HF0 O1
        obtain ⟨K, wd, gb, cap, rfl, rfl, hO, hrow, hwd, hS, HP, HF, hbel, hsz⟩ := hrel
        rcases List.eq_nil_or_concat K with rfl | ⟨K', p, hK⟩
        · have HP1 : Hid (∀ p, p < src + 1 → ∀ q, q < n → (Bt.bt wd W p q = true ↔ Tj.Rch (sOf L Z) p q)) := by
            intro p hp q hq
            by_cases e : p = src
            · subst e; exact hS.done hlt hsl q hq
            · exact HP.out p (by omega) q hq
          clear h hL hZ
          go_wp2
          go_roundg (n - (src + 1))
          case measure => omega
          case rel => exact ⟨src + 1, wd, gb, cap, by omega, rfl, by go_num, rfl, hO, hrow, hwd, HP1, HF, hbel, hsz⟩
        · rw [List.concat_eq_append] at hK
          subst hK
          have hpn := (hS.wait p (by simp)).1
          have hfit := hO.fits
          have hroom := hS.room
          have hSP := hS.pop
          simp only [List.length_append, List.length_singleton] at hO hfit hroom ⊢
          obtain ⟨mk, hmk⟩ : ∃ x, x = K'.length := ⟨_, rfl⟩
          have hlast := hO.last
          have hpop := hO.pop
          rw [← hmk] at hfit hroom hlast hpop ⊢
          have HMK : Hid (mk = K'.length) := hmk
          have HMAT0 := h
          obtain ⟨⟨b, off, rfl, _, hcp⟩, hrp⟩ := h p hpn
          have HMAT : Hid (Mat lo w (some ⟨b, off, none⟩) n A L C Z) := HMAT0
          clear HMAT0
          have d1 : wr.cell? ⟨b, off + p, none⟩ = some (.slice (A p) (L p) (C p)) := by rw [hbel.cell (World.block_lt_of_cell? _ _ hcp)]; exact hcp
          have hLp := hL p hpn
          have hZp := hZ p hpn
          have hm1 : mk ≤ 4096 := by omega
          clear hO hS h hL hZ hmk hcp hroom
          obtain ⟨M0, hM0⟩ : ∃ x, x = 2 * Bt.cntB (Bt.bt wd W src) n + mk := ⟨_, rfl⟩
          have HM0 : Hid (M0 = 2 * Bt.cntB (Bt.bt wd W src) n + mk) := hM0
          clear hM0
          go_wp2
          go_loopg [7, 11] (L p) (fun g st k wr => ∃ (K : List Nat) (wd : Nat → Nat) (j gb cap : Nat), j ≤ L p ∧ g = L p - j ∧ k = .int .i64 j ∧ st = .slice (some ⟨gb, 0, none⟩) K.length cap ∧ OwnI wr (w.heap.size + 1) (.slice (some ⟨gb, 0, none⟩) K.length cap) K ∧
            wr.rowIs w.heap.size 42 N (fun i => .int .u64 (wd i : Int)) ∧ (∀ i, wd i < 18446744073709551616) ∧ Bt.SrchP (sOf L Z) n src (Bt.bt wd W src) K p j ∧ Hid (∀ p, p < src → ∀ q, q < n → (Bt.bt wd W p q = true ↔ Tj.Rch (sOf L Z) p q)) ∧ Hid (∀ p, src + 1 ≤ p → ∀ q, q < n → Bt.bt wd W p q = false) ∧
            Hid (2 * Bt.cntB (Bt.bt wd W src) n + K.length ≤ M0) ∧ Below w.heap.size w wr ∧ w.heap.size + 1 ≤ wr.heap.size)
          case atStart => exact ⟨K', wd, 0, gb, cap, Nat.zero_le _, rfl, rfl, (by rw [HMK.out]), (by rw [← HMK.out]; exact hpop), hrow, hwd, hSP, HP, HF, (by show _ ≤ _; rw [HM0.out, HMK.out]; exact Nat.le_refl _), hbel, hsz⟩
          case round =>
            have d1' := hbel
            clear hpop hrow hwd hSP HP HF hsz hlast hfit
            obtain ⟨K, wd, j, gb, cap, hj, rfl, rfl, rfl, hO, hrow, hwd, hSP, HP, HF, HM, hbel2, hsz⟩ := hrel
            have d2 : wr.cell? ⟨b, off + p, none⟩ = some (.slice (A p) (L p) (C p)) := by
              obtain ⟨⟨b', off', e', _, hcp⟩, _⟩ := HMAT.out p hpn
              simp only [Option.some.injEq, Addr.mk.injEq] at e'
              obtain ⟨rfl, rfl, _⟩ := e'
              rw [hbel2.cell (World.block_lt_of_cell? _ _ hcp)]; exact hcp
            clear d1 d1' hbel
            by_cases hlj : j < L p
            · obtain ⟨b2, off2, ea, _, hc2⟩ := hrp j hlj
              rw [ea] at d2
              obtain ⟨t, ht⟩ : ∃ t : Nat, Z p j = (t : Int) := ⟨(Z p j).toNat, by have := hZp j hlj; omega⟩
              have htn : t < n := by have := hZp j hlj; omega
              have hk : (sOf L Z p)[j]? = some t := by rw [sOf_get L Z p j hlj, ht]; rfl
              have hc2' : w.cell? ⟨b2, off2 + j, none⟩ = some (.int .i32 (t : Int)) := by rw [hc2, ht]
              have d3 : wr.cell? ⟨b2, off2 + j, none⟩ = some (.int .i32 (t : Int)) := by rw [hbel2.cell (World.block_lt_of_cell? _ _ hc2')]; exact hc2'
              have hit := hidx t htn
              obtain ⟨wv, hwv⟩ : ∃ x, x = wd (rr + t / 64) := ⟨_, rfl⟩
              have hwl := hwd (rr + t / 64)
              have hc0 : wr.cell? ⟨w.heap.size, rr + t / 64, none⟩ = some (.int .u64 ((wd (rr + t / 64) : Nat) : Int)) := hrow.cell hit
              rw [← hwv] at hc0 hwl
              have hf0 : wr.frozen? ⟨w.heap.size, rr + t / 64, none⟩ = false := hrow.frozen _
              obtain ⟨bv, HBV, hbl, hsh⟩ := mask_of t
              have hand := u64_and_nat wv bv hwl hbl
              obtain ⟨av, hav⟩ : ∃ x, x = wv &&& bv := ⟨_, rfl⟩
              rw [← hav] at hand
              have hbit := Bt.and_bit wv (t % 64)
              rw [← HBV.out, ← hav] at hbit
              have hbt : Bt.bt wd W src t = wv.testBit (t % 64) := by unfold Bt.bt; rw [← HRR.out, ← hwv]
              have HK : Hid ((sOf L Z p)[j]? = some t) := hk
              clear hrp hZp ht hc2 hc2' hk hav
              cases hT : Bt.bt wd W src t with
              | true =>
                have hne : ((av : Int) == 0) = false := beq_eq_false_iff_ne.2 (fun e => by
                  have : av = 0 := by omega
                  rw [hbt, hbit.1 this] at hT; cases hT)
                have HSP : Hid (Bt.SrchP (sOf L Z) n src (Bt.bt wd W src) K p (j + 1)) := hSP.skip HK.out hT
                clear hbit hbt hT hSP hwv
                go_wp2
                go_roundg (L p - (j + 1))
                case measure => omega
                case rel => exact ⟨K, wd, j + 1, gb, cap, by omega, rfl, by go_num, rfl, hO, hrow, hwd, HSP.out, HP, HF, HM, hbel2, hsz⟩
              | false =>
                have hne : ((av : Int) == 0) = true := beq_iff_eq.2 (by have := hbit.2 (by rw [← hbt]; exact hT); omega)
                have hor := u64_or_nat wv bv hwl hbl
                obtain ⟨ov, hov⟩ : ∃ x, x = wv ||| bv := ⟨_, rfl⟩
                rw [← hov] at hor
                have hB' : ∀ x, x < n → Bt.bt (Bt.sb wd W src t) W src x = (Bt.bt wd W src x || decide (x = t)) := by
                  intro x hx
                  have e := Bt.bt_sb wd n src t src x htn hx
                  rw [← hWW.out] at e
                  rw [e]; simp
                have hroom := hSP.room
                have HSP : Hid (Bt.SrchP (sOf L Z) n src (Bt.bt (Bt.sb wd W src t) W src) (K ++ [t]) p (j + 1)) := hSP.push HK.out htn hT hsl hlt hB'
                have hcs := Bt.cntB_set htn hT hB'
                have HM2 : Hid (2 * Bt.cntB (Bt.bt (Bt.sb wd W src t) W src) n + (K ++ [t]).length ≤ M0) := by
                  show _ ≤ _
                  have := HM.out
                  rw [List.length_append, List.length_singleton]; omega
                have HP2 : Hid (∀ p, p < src → ∀ q, q < n → (Bt.bt (Bt.sb wd W src t) W p q = true ↔ Tj.Rch (sOf L Z) p q)) := by
                  intro p hp q hq
                  have e := Bt.bt_sb wd n src t p q htn hq
                  rw [← hWW.out] at e
                  rw [e, show decide (p = src) = false from by simp; omega]
                  simpa using HP.out p hp q hq
                have HF2 : Hid (∀ p, src + 1 ≤ p → ∀ q, q < n → Bt.bt (Bt.sb wd W src t) W p q = false) := by
                  intro p hp q hq
                  have e := Bt.bt_sb wd n src t p q htn hq
                  rw [← hWW.out] at e
                  rw [e, show decide (p = src) = false from by simp; omega, HF.out p hp q hq]; rfl
                have hO2 := hO.setBelow (a := ⟨w.heap.size, rr + t / 64, none⟩) (by show w.heap.size < w.heap.size + 1; omega) (.int .u64 (ov : Int))
                have hsz2 : w.heap.size + 1 ≤ (wr.setCell ⟨w.heap.size, rr + t / 64, none⟩ (.int .u64 (ov : Int))).heap.size := by rw [Deep.nblk_setCell]; exact hsz
                have hrow2 : (wr.setCell ⟨w.heap.size, rr + t / 64, none⟩ (.int .u64 (ov : Int))).rowIs w.heap.size 42 N (fun i => .int .u64 (Bt.sb wd W src t i : Int)) := by
                  refine (hrow.set (rr + t / 64) (.int .u64 (ov : Int))).congr (fun j _ => ?_)
                  unfold Bt.sb Tj.upd
                  rw [← HRR.out]
                  by_cases e : j = rr + t / 64
                  · rw [if_pos e, if_pos e, hov, hwv, HBV.out]
                  · rw [if_neg e, if_neg e]
                have hb2 : Below w.heap.size w (wr.setCell ⟨w.heap.size, rr + t / 64, none⟩ (.int .u64 (ov : Int))) := hbel2.setCell (Nat.le_refl _) _
                have hwd2 := Bt.sb_lt wd W src t hwd
                clear hrow hO hbel2 HP HF HM hSP hB' hbit hbt hT hwv hov hcs hsz
                go_upto_region 21 with (fail)
                generalize wr.setCell ⟨w.heap.size, rr + t / 64, none⟩ (.int .u64 (ov : Int)) = W2 at hO2 hrow2 hb2 hsz2 ⊢
                clear hc0 hf0 hor hsh hit d2 d3 hand hne
                go_wp2_with (at_builtin; refine wpList_pushI (x := t) hO2 (by omega) hsz2 rfl (.tmp 107) (.tmp 110) rfl rfl rfl ?_; intro g1 cap1 w1 O1 B1)
                go_roundg (L p - (j + 1))
                case measure => omega
                case rel =>
                  refine ⟨K ++ [t], Bt.sb wd W src t, j + 1, g1, cap1, by omega, rfl, by go_num, (by rw [List.length_append]; rfl), (by rw [List.length_append]; exact O1), hrow2.of_block (B1.block _ (by omega)), hwd2, HSP.out, HP2, HF2, HM2, hb2.trans (B1.mono (by omega)), Nat.le_trans hsz2 B1.size⟩
            · have HSF : Hid (Bt.Srch (sOf L Z) n src (Bt.bt wd W src) K) := hSP.finish (by rw [sOf_len]; omega)
              have hmeas := HM.out
              have hm0' := HM0.out
              have HMM : Hid (2 * Bt.cntB (Bt.bt wd W src) n + K.length ≤ M0) := HM
              clear hrp hZp hSP hmeas hm0' HM
              go_wp2
              go_roundg (2 * Bt.cntB (Bt.bt wd W src) n + K.length)
              case measure => have h1 := HMM.out; have h2 := HM0.out; have h3 := HMK.out; simp only [List.length_append, List.length_singleton]; omega
              case rel => exact ⟨K, wd, gb, cap, rfl, rfl, hO, hrow, hwd, HSF.out, HP, HF, hbel2, hsz⟩
    · clear h hL hZ
      have HP1 : Hid (∀ p q, p < n → q < n → (Bt.bt wd W p q = true ↔ Tj.Rch (sOf L Z) p q)) := fun p q hp hq => HP.out p (by omega) q hq
      go_wp2
      go_ret
      exact ⟨_, wd, rfl, Row.of_rowIs (c := 0) hrow (Nat.le_refl _), hwd, HP1.out, hbel⟩
end Go.Proofs.Qxb6605494a
