import Derived.WalkKit
namespace Go.Proofs.Qxb6606044a.Pl

def cnt (f : Nat → Nat) : Nat → Nat → Nat
  | 0, _ => 0
  | k + 1, v => cnt f k v + (if v = f k then 1 else 0)

def prs (f : Nat → Nat) : Nat → Nat
  | 0 => 0
  | k + 1 => prs f k + cnt f k (f k)

def tri (k : Nat) : Nat := k * (k - 1) / 2

def hsum (g : Nat → Nat) : Nat → Nat
  | 0 => 0
  | v + 1 => hsum g v + tri (g v)

theorem tri_succ (k : Nat) : tri (k + 1) = tri k + k := by
  unfold tri
  cases k with
  | zero => rfl
  | succ k =>
    have e : (k + 1 + 1) * (k + 1 + 1 - 1) = (k + 1) * (k + 1 - 1) + 2 * (k + 1) := by
      simp only [Nat.add_sub_cancel]
      rw [show (k + 1 + 1) * (k + 1) = k * (k + 1) + 2 * (k + 1) by rw [← Nat.add_mul], Nat.mul_comm k]
    rw [e]; omega

theorem tri_mono {a b : Nat} (h : a ≤ b) : tri a ≤ tri b := Nat.div_le_div_right (Nat.mul_le_mul h (by omega))

theorem tri_bound (k : Nat) (h : k ≤ 1048577) : tri k ≤ 549756338176 := Nat.le_trans (tri_mono h) (by decide)

theorem two_le_tri (k : Nat) (h : 2 ≤ k) : 1 ≤ tri k := Nat.le_trans (by decide) (tri_mono h)

/-- what Go's 'c*(c-1)/2' shows on int -/
theorem tri_int (k : Nat) : (k : Int) * ((k : Int) - 1) / 2 = (tri k : Int) := by
  unfold tri
  cases k with
  | zero => rfl
  | succ k =>
    have e : ((k + 1 : Nat) : Int) * (((k + 1 : Nat) : Int) - 1) = (((k + 1) * (k + 1 - 1) : Nat) : Int) := by
      rw [Int.natCast_mul]; congr 1; omega
    rw [e]; omega

theorem tri_int_nonneg (k : Nat) : 0 ≤ (k : Int) * ((k : Int) - 1) := by
  cases k with
  | zero => decide
  | succ k => exact Int.mul_nonneg (by omega) (by omega)

theorem tri_int_le (k : Nat) (h : k ≤ 1048577) : (k : Int) * ((k : Int) - 1) ≤ 1099513724928 := by
  have h1 := tri_int_nonneg k
  have h2 : (k : Int) * ((k : Int) - 1) ≤ 1048577 * ((k : Int) - 1) ∨ k = 0 := by
    by_cases h0 : k = 0
    · exact .inr h0
    · exact .inl (Int.mul_le_mul_of_nonneg_right (by omega) (by omega))
  rcases h2 with h2 | h2
  · omega
  · subst h2; decide

theorem cnt_le (f : Nat → Nat) (k v : Nat) : cnt f k v ≤ k := by
  induction k with
  | zero => exact Nat.le_refl _
  | succ k ih => simp only [cnt]; split <;> omega

theorem prs_le (f : Nat → Nat) (k : Nat) : prs f k ≤ tri k := by
  induction k with
  | zero => exact Nat.le_refl _
  | succ k ih => rw [tri_succ]; simp only [prs]; have := cnt_le f k (f k); omega

theorem hsum_step (f : Nat → Nat) (k m : Nat) : hsum (cnt f (k + 1)) m = hsum (cnt f k) m + (if f k < m then cnt f k (f k) else 0) := by
  induction m with
  | zero => simp [hsum]
  | succ m ih =>
    show hsum (cnt f (k + 1)) m + tri (cnt f (k + 1) m) = hsum (cnt f k) m + tri (cnt f k m) + _
    rw [ih, show cnt f (k + 1) m = cnt f k m + (if m = f k then 1 else 0) from rfl]
    by_cases e : m = f k
    · subst e
      rw [if_neg (by omega), if_pos rfl, if_pos (by omega), tri_succ]; omega
    · rw [if_neg e]
      by_cases h : f k < m
      · rw [if_pos h, if_pos (by omega)]; simp only [Nat.add_zero]; omega
      · rw [if_neg h, if_neg (by omega)]; simp only [Nat.add_zero]

theorem hsum_zero (m : Nat) : hsum (fun _ => 0) m = 0 := by
  induction m with
  | zero => rfl
  | succ m ih => simp [hsum, ih, tri]

theorem hsum_cnt (f : Nat → Nat) (k : Nat) (h : ∀ j, j < k → f j < 256) : hsum (cnt f k) 256 = prs f k := by
  induction k with
  | zero => exact hsum_zero 256
  | succ k ih => rw [hsum_step, if_pos (h k (by omega)), ih (fun j hj => h j (by omega))]; rfl

theorem hsum_le (f : Nat → Nat) (k m : Nat) (h : ∀ j, j < k → f j < 256) (hm : m ≤ 256) : hsum (cnt f k) m ≤ prs f k := by
  rw [← hsum_cnt f k h]
  have : ∀ d, hsum (cnt f k) m ≤ hsum (cnt f k) (m + d) := by
    intro d
    induction d with
    | zero => exact Nat.le_refl _
    | succ d ih => show _ ≤ hsum (cnt f k) (m + d) + _; omega
  have := this (256 - m)
  rwa [show m + (256 - m) = 256 by omega] at this

theorem cnt_congr (f g : Nat → Nat) (k v : Nat) (h : ∀ j, j < k → f j = g j) : cnt f k v = cnt g k v := by
  induction k with
  | zero => rfl
  | succ k ih => simp only [cnt]; rw [ih (fun j hj => h j (by omega)), h k (by omega)]

theorem prs_congr (f g : Nat → Nat) (k : Nat) (h : ∀ j, j < k → f j = g j) : prs f k = prs g k := by
  induction k with
  | zero => rfl
  | succ k ih => simp only [prs]; rw [ih (fun j hj => h j (by omega)), h k (by omega), cnt_congr f g k _ (fun j hj => h j (by omega))]

theorem cnt_const (c k : Nat) : cnt (fun _ => c) k c = k := by
  induction k with
  | zero => rfl
  | succ k ih => simp [cnt, ih]

theorem prs_const (c k : Nat) : prs (fun _ => c) k = tri k := by
  induction k with
  | zero => rfl
  | succ k ih => rw [tri_succ]; simp only [prs]; rw [ih, cnt_const]

/-! strides -/
def strd (q : Nat) : Nat := if q ≤ 1 then 1 else if q % 2 = 0 then q + 1 else q
theorem strd_pos (q : Nat) : 1 ≤ strd q := by unfold strd; split; omega; split <;> omega
theorem strd_le (q : Nat) : strd q ≤ q + 1 := by unfold strd; split; omega; split <;> omega

theorem or_one (q : Nat) : q ||| 1 = if q % 2 = 0 then q + 1 else q := by
  split
  · rename_i h
    exact nat_join 1 q 1 (by simpa using h) (by decide)
  · rename_i h
    apply Nat.eq_of_testBit_eq
    intro i
    rw [Nat.testBit_or]
    cases i with
    | zero => simp [Nat.testBit_zero]; omega
    | succ i => simp [Nat.testBit_succ]

theorem or_one_i64 (q : Nat) (hq : q < 9223372036854775807) : bits .or .i64 (q : Int) 1 = ((if q % 2 = 0 then q + 1 else q : Nat) : Int) := by
  rw [← or_one]
  have hb : q ||| 1 < 9223372036854775808 := by rw [or_one]; split <;> omega
  unfold bits
  have e : ((BitVec.ofInt 64 (q : Int)) ||| (BitVec.ofInt 64 1)).toNat = q ||| 1 := by
    rw [BitVec.toNat_or]
    have h1 : (BitVec.ofInt 64 (q : Int)).toNat = q := ofInt_u64 q (by omega)
    have h2 : (BitVec.ofInt 64 (1 : Int)).toNat = 1 := by decide
    rw [h1, h2]
  show IntKind.i64.wrap (((BitVec.ofInt 64 (q : Int)) ||| (BitVec.ofInt 64 1)).toNat : Int) = _
  rw [e, IntKind.wrap_i64]
  omega

/-- how many steps of 'st' lie below 'len' -/
def nOf (len st : Nat) : Nat := (len + st - 1) / st
end Go.Proofs.Qxb6606044a.Pl
