import Derived.Laws.FloatArith
namespace Go.Proofs.Qxb6606044a.Fl
open Ieee

theorem sw : double.signWeight = 9223372036854775808 := by decide
theorem bi : double.binade = 4503599627370496 := by decide
theorem ir : double.infRung = 9218868437227405312 := by decide
theorem lp : double.leastPlace = -1074 := by decide
theorem fb : double.fractionBits = 52 := by decide

theorem read_word (E K : Nat) (hK1 : 4503599627370496 ≤ K) (hK2 : K < 9007199254740992) (hE : E ≤ 2040) :
    double.read (E * 4503599627370496 + K) = .number false K ((E : Int) - 1074) := by
  have h1 : (E * 4503599627370496 + K) / 9223372036854775808 = 0 := Nat.div_eq_of_lt (by omega)
  have h2 : (E * 4503599627370496 + K) % 9223372036854775808 = E * 4503599627370496 + K := Nat.mod_eq_of_lt (by omega)
  have h3 : (E * 4503599627370496 + K) / 4503599627370496 = E + 1 := by omega
  have h4 : (E * 4503599627370496 + K) % 4503599627370496 = K - 4503599627370496 := by omega
  unfold Format.read
  simp only [sw, bi, ir, lp, h1, h2]
  rw [if_neg (by omega), if_pos (by omega), h3, h4]
  have e1 : 4503599627370496 + (K - 4503599627370496) = K := by omega
  have e2 : ((E + 1 - 1 : Nat) : Int) = (E : Int) := by omega
  rw [e1, e2]
  have e3 : (-1074 : Int) + (E : Int) = (E : Int) - 1074 := by omega
  rw [e3]
  rfl

theorem cut_zero (n : Nat) : Toward.even.cut false n 0 = n := by
  simp [Toward.cut, Nat.mod_one]

theorem nearest_small (mag : Nat) (place : Int) (h0 : mag ≠ 0) (hL : mag.log2 ≤ 52) (h1 : -1000 ≤ place + mag.log2) (h2 : place + mag.log2 ≤ 1000) :
    double.nearest false mag place = (place + mag.log2 + 1022).toNat * 4503599627370496 + mag * 2 ^ (52 - mag.log2) := by
  unfold Format.nearest
  rw [if_neg h0]
  simp only [bi, ir, lp, fb]
  have e1 : max (place + (mag.log2 : Int) - ((52 : Nat) : Int)) (-1074) = place + mag.log2 - 52 := by omega
  rw [e1]
  have e2 : (place - (place + (mag.log2 : Int) - 52)).toNat = 52 - mag.log2 := by omega
  have e3 : (place + (mag.log2 : Int) - 52 - place).toNat = 0 := by omega
  have e4 : (place + (mag.log2 : Int) - 52 - -1074).toNat = (place + mag.log2 + 1022).toNat := by omega
  rw [e2, e3, e4, cut_zero, Nat.shiftLeft_eq]
  have hlt : mag < 2 ^ (mag.log2 + 1) := Nat.lt_log2_self
  have hb : mag * 2 ^ (52 - mag.log2) < 9007199254740992 := by
    have : mag * 2 ^ (52 - mag.log2) < 2 ^ (mag.log2 + 1) * 2 ^ (52 - mag.log2) := Nat.mul_lt_mul_of_pos_right hlt (Nat.two_pow_pos _)
    rw [← Nat.pow_add, show mag.log2 + 1 + (52 - mag.log2) = 53 by omega] at this
    omega
  unfold Format.word
  simp only [Bool.false_eq_true, if_false]
  rw [Nat.min_eq_left]
  omega

theorem cut_pos (n d : Nat) (h : d ≤ n.log2) : ∃ c : Nat, c ≤ 1 ∧ (n % 2 ^ d = 0 → c = 0) ∧ Toward.even.cut false n d = n / 2 ^ d + c := by
  unfold Toward.cut
  rw [Nat.min_eq_left (by omega), Nat.one_shiftLeft]
  have hp : 0 < 2 ^ d := Nat.two_pow_pos d
  refine ⟨_, ?_, ?_, rfl⟩
  · exact Bool.toNat_le _
  · intro hz
    simp only [hz]
    have : (decide (2 ^ d < 2 * 0) || (2 ^ d == 2 * 0 && n / 2 ^ d % 2 == 1)) = false := by
      have h1 : decide (2 ^ d < 2 * 0) = false := by simp
      have h2 : (2 ^ d == 2 * 0) = false := by simp
      rw [h1, h2]; rfl
    rw [this]; rfl

theorem nearest_big (mag : Nat) (place : Int) (hL : 52 < mag.log2) (h1 : -1000 ≤ place + mag.log2) (h2 : place + mag.log2 ≤ 1000) :
    ∃ c : Nat, c ≤ 1 ∧ (mag % 2 ^ (mag.log2 - 52) = 0 → c = 0) ∧ double.nearest false mag place = (place + mag.log2 + 1022).toNat * 4503599627370496 + (mag / 2 ^ (mag.log2 - 52) + c) := by
  have h0 : mag ≠ 0 := by intro h; subst h; simp at hL
  obtain ⟨c, hc1, hc2, hc3⟩ := cut_pos mag (mag.log2 - 52) (by omega)
  refine ⟨c, hc1, hc2, ?_⟩
  unfold Format.nearest
  rw [if_neg h0]
  simp only [bi, ir, lp, fb]
  have e1 : max (place + (mag.log2 : Int) - ((52 : Nat) : Int)) (-1074) = place + mag.log2 - 52 := by omega
  rw [e1]
  have e2 : (place - (place + (mag.log2 : Int) - 52)).toNat = 0 := by omega
  have e3 : (place + (mag.log2 : Int) - 52 - place).toNat = mag.log2 - 52 := by omega
  have e4 : (place + (mag.log2 : Int) - 52 - -1074).toNat = (place + mag.log2 + 1022).toNat := by omega
  rw [e2, e3, e4, Nat.shiftLeft_zero, hc3]
  have hlt : mag < 2 ^ (mag.log2 + 1) := Nat.lt_log2_self
  have hb : mag / 2 ^ (mag.log2 - 52) < 9007199254740992 := by
    rw [Nat.div_lt_iff_lt_mul (Nat.two_pow_pos _)]
    have : 2 ^ 53 * 2 ^ (mag.log2 - 52) = 2 ^ (mag.log2 + 1) := by rw [← Nat.pow_add]; congr 1; omega
    have e : (2 : Nat) ^ 53 = 9007199254740992 := by decide
    rw [e] at this
    omega
  unfold Format.word
  simp only [Bool.false_eq_true, if_false]
  rw [Nat.min_eq_left]
  omega

theorem log2_of (a k : Nat) (h1 : 2 ^ k ≤ a) (h2 : a < 2 ^ (k + 1)) : a.log2 = k := by
  have h0 : a ≠ 0 := by have := Nat.two_pow_pos k; omega
  have l1 := (Nat.le_log2 h0).2 h1
  have l2 := (Nat.log2_lt h0).2 h2
  omega

/-- a scaled to 53 digits -/
def sig (N : Nat) : Nat := N * 2 ^ (52 - N.log2)

theorem sig_bounds (N : Nat) (h0 : N ≠ 0) (hL : N.log2 ≤ 52) : 4503599627370496 ≤ sig N ∧ sig N < 9007199254740992 := by
  unfold sig
  have h1 := Nat.log2_self_le h0
  have h2 : N < 2 ^ (N.log2 + 1) := Nat.lt_log2_self
  have a1 : 2 ^ N.log2 * 2 ^ (52 - N.log2) ≤ N * 2 ^ (52 - N.log2) := Nat.mul_le_mul_right _ h1
  have a2 : N * 2 ^ (52 - N.log2) < 2 ^ (N.log2 + 1) * 2 ^ (52 - N.log2) := Nat.mul_lt_mul_of_pos_right h2 (Nat.two_pow_pos _)
  rw [← Nat.pow_add, show N.log2 + (52 - N.log2) = 52 by omega] at a1
  rw [← Nat.pow_add, show N.log2 + 1 + (52 - N.log2) = 53 by omega] at a2
  constructor <;> omega

theorem sig_log2 (N : Nat) (h0 : N ≠ 0) (hL : N.log2 ≤ 52) : (sig N).log2 = 52 := by
  have := sig_bounds N h0 hL
  exact log2_of _ 52 (by omega) (by omega)

theorem ofInt_eq (N : Nat) : floatOfInt .f64 (N : Int) = double.nearest false N 0 := by
  show double.nearest (decide ((N : Int) < 0)) (N : Int).natAbs 0 = _
  rw [decide_eq_false (by omega)]
  simp

theorem read_ofInt (N : Nat) (h0 : N ≠ 0) (hL : N.log2 ≤ 52) : double.read (floatOfInt .f64 (N : Int)) = .number false (sig N) ((N.log2 : Int) - 52) := by
  have hb := sig_bounds N h0 hL
  rw [ofInt_eq, nearest_small N 0 h0 hL (by omega) (by omega), show ((0 : Int) + (N.log2 : Int) + 1022).toNat = N.log2 + 1022 by omega]
  show double.read ((N.log2 + 1022) * 4503599627370496 + sig N) = _
  rw [read_word _ _ hb.1 hb.2 (by omega), show ((N.log2 + 1022 : Nat) : Int) - 1074 = (N.log2 : Int) - 52 by omega]

theorem read_256 : double.read 4643211215818981376 = .number false 4503599627370496 (-44) := by
  have := read_word 1030 4503599627370496 (by omega) (by omega) (by omega)
  simpa using this

theorem read_0 : double.read 0 = .number false 0 (-1074) := by decide

/-- '256 * float64(P)' -/
theorem mul_256 (P : Nat) (h0 : P ≠ 0) (hL : P.log2 ≤ 52) : double.mul 4643211215818981376 (floatOfInt .f64 (P : Int)) = some ((P.log2 + 1030) * 4503599627370496 + sig P) := by
  have hb := sig_bounds P h0 hL
  unfold Format.mul
  rw [read_256, read_ofInt P h0 hL]
  show some (double.nearest (false ^^ false) (4503599627370496 * sig P) (-44 + ((P.log2 : Int) - 52))) = _
  have hlog : (4503599627370496 * sig P).log2 = 104 := log2_of _ 104 (by omega) (by omega)
  obtain ⟨c, _, hc, hn⟩ := nearest_big (4503599627370496 * sig P) (-44 + ((P.log2 : Int) - 52)) (by rw [hlog]; omega) (by rw [hlog]; omega) (by rw [hlog]; omega)
  have hm : 4503599627370496 * sig P % 2 ^ ((4503599627370496 * sig P).log2 - 52) = 0 := by
    rw [hlog]
    show 4503599627370496 * sig P % 4503599627370496 = 0
    omega
  rw [show (false ^^ false) = false from rfl, hn, hc hm, hlog]
  have hd : 4503599627370496 * sig P / 2 ^ (104 - 52) = sig P := by
    show 4503599627370496 * sig P / 4503599627370496 = sig P
    omega
  rw [hd, Nat.add_zero, show (-44 + ((P.log2 : Int) - 52) + ((104 : Nat) : Int) + 1022).toNat = P.log2 + 1030 by omega]

def okR (R : Nat) : Prop := (double.order R 0 == some .gt || double.order R 0 == some .eq) = true ∧ (double.order R 4643211215818981376 == some .lt || double.order R 4643211215818981376 == some .eq) = true ∧ (double.order R R == some .eq) = true

theorem cmp_self (x : Int) : compare x x = .eq := by simp

theorem okR_zero : okR 0 := by unfold okR; decide
theorem okR_one : okR 4607182418800017408 := by unfold okR; decide
theorem okR_256 : okR 4643211215818981376 := by unfold okR; decide

theorem okR_of (E K : Nat) (h1 : 4503599627370496 ≤ K) (h2 : K < 9007199254740992) (hE : E ≤ 1029) : okR (E * 4503599627370496 + K) := by
  unfold okR Format.order
  rw [read_word E K h1 h2 (by omega), read_256, read_0]
  refine ⟨?_, ?_, ?_⟩
  · simp only [Datum.order]
    have hb : min ((E : Int) - 1074) (-1074) = -1074 := by omega
    rw [hb]
    simp only [signed, Bool.false_eq_true, if_false, Nat.zero_shiftLeft]
    have hpos : (0 : Int) < ((K <<< ((E : Int) - 1074 - -1074).toNat : Nat) : Int) := by
      rw [Nat.shiftLeft_eq]
      have : 0 < K * 2 ^ ((E : Int) - 1074 - -1074).toNat := Nat.mul_pos (by omega) (Nat.two_pow_pos _)
      omega
    have : compare ((K <<< ((E : Int) - 1074 - -1074).toNat : Nat) : Int) ((0 : Nat) : Int) = .gt := by
      rw [Int.compare_eq_gt]; simpa using hpos
    rw [this]; rfl
  · simp only [Datum.order]
    have hb : min ((E : Int) - 1074) (-44) = (E : Int) - 1074 := by omega
    rw [hb]
    simp only [signed, Bool.false_eq_true, if_false]
    have e0 : ((E : Int) - 1074 - ((E : Int) - 1074)).toNat = 0 := by omega
    have e1 : (-44 - ((E : Int) - 1074)).toNat = (1029 - E) + 1 := by omega
    rw [e0, e1, Nat.shiftLeft_zero, Nat.shiftLeft_eq, Nat.pow_succ]
    have hp := Nat.two_pow_pos (1029 - E)
    have hlt : (K : Int) < ((4503599627370496 * (2 ^ (1029 - E) * 2) : Nat) : Int) := by
      generalize 2 ^ (1029 - E) = t at *
      omega
    have : compare (K : Int) ((4503599627370496 * (2 ^ (1029 - E) * 2) : Nat) : Int) = .lt := by
      rw [Int.compare_eq_lt]; exact hlt
    rw [this]; rfl
  · simp only [Datum.order]
    rw [cmp_self]; rfl

theorem okR_top (E : Nat) (hE : E ≤ 1029) : okR (E * 4503599627370496 + 9007199254740992) := by
  by_cases h : E = 1029
  · subst h; exact okR_256
  · have := okR_of (E + 1) 4503599627370496 (by omega) (by omega) (by omega)
    rwa [show (E + 1) * 4503599627370496 + 4503599627370496 = E * 4503599627370496 + 9007199254740992 by omega] at this

/-- the quotient of two scaled numbers, the first no greater -/
theorem quo_ok (P N : Nat) (hP0 : P ≠ 0) (hPN : P ≤ N) (hN : N.log2 ≤ 45) :
    ∃ R, double.div ((P.log2 + 1030) * 4503599627370496 + sig P) (floatOfInt .f64 (N : Int)) = some R ∧ okR R ∧ (P = N → R = 4643211215818981376) := by
  have hN0 : N ≠ 0 := by omega
  have hLL : P.log2 ≤ N.log2 := (Nat.le_log2 hN0).2 (Nat.le_trans (Nat.log2_self_le hP0) hPN)
  have ba := sig_bounds P hP0 (by omega)
  have bb := sig_bounds N hN0 (by omega)
  have la := sig_log2 P hP0 (by omega)
  have lb := sig_log2 N hN0 (by omega)
  have hsame : P.log2 = N.log2 → sig P ≤ sig N := by
    intro h; unfold sig; rw [h]; exact Nat.mul_le_mul_right _ hPN
  have heq : P = N → sig P = sig N := fun h => by rw [h]
  unfold Format.div
  rw [read_word _ _ ba.1 ba.2 (by omega), read_ofInt N hN0 (by omega), fb]
  generalize sig P = a at *
  generalize sig N = b at *
  simp only [Datum.quotient]
  rw [if_neg (by omega), la, lb]
  simp only [Option.map_some]
  have hm : 52 + 2 + 52 - 52 = 54 := rfl
  rw [hm, Nat.shiftLeft_eq]
  show ∃ R, some (double.nearest false (2 * (a * 18014398509481984 / b) + (a * 18014398509481984 % b != 0).toNat) (((P.log2 + 1030 : Nat) : Int) - 1074 - ((N.log2 : Int) - 52) - ((54 : Nat) : Int) - 1)) = some R ∧ _
  have hr : (a * 18014398509481984 % b != 0).toNat ≤ 1 := Bool.toNat_le _
  have hr0 : a = b → (a * 18014398509481984 % b != 0).toNat = 0 := by
    intro h; subst h; simp
  generalize (a * 18014398509481984 % b != 0).toNat = r at *
  by_cases hab : b ≤ a
  · have d1 : 18014398509481984 ≤ a * 18014398509481984 / b := by
      rw [Nat.le_div_iff_mul_le (by omega)]; omega
    have d2 : a * 18014398509481984 / b < 36028797018963968 := by
      rw [Nat.div_lt_iff_lt_mul (by omega)]; omega
    have d3 : a = b → a * 18014398509481984 / b = 18014398509481984 := by
      intro h; subst h; exact Nat.mul_div_cancel_left _ (by omega)
    generalize a * 18014398509481984 / b = d at *
    have lq : (2 * d + r).log2 = 55 := log2_of _ 55 (by omega) (by omega)
    obtain ⟨c, hc1, hc2, hn⟩ := nearest_big (2 * d + r) (((P.log2 + 1030 : Nat) : Int) - 1074 - ((N.log2 : Int) - 52) - ((54 : Nat) : Int) - 1) (by rw [lq]; omega) (by rw [lq]; omega) (by rw [lq]; omega)
    rw [lq] at hn hc2
    refine ⟨_, rfl, ?_⟩
    rw [hn]
    have e8 : (2 : Nat) ^ (55 - 52) = 8 := rfl
    rw [e8] at hc2 ⊢
    by_cases hll : P.log2 = N.log2
    · have hab' : a = b := by have := hsame hll; omega
      have hd := d3 hab'
      have hrr := hr0 hab'
      subst hd; subst hrr
      have hc : c = 0 := hc2 (by decide)
      subst hc
      have hE : ((((P.log2 + 1030 : Nat) : Int) - 1074 - ((N.log2 : Int) - 52) - ((54 : Nat) : Int) - 1) + ((55 : Nat) : Int) + 1022).toNat = 1030 := by omega
      rw [hE]
      exact ⟨okR_256, fun _ => rfl⟩
    · obtain ⟨E, hE⟩ : ∃ E, ((((P.log2 + 1030 : Nat) : Int) - 1074 - ((N.log2 : Int) - 52) - ((54 : Nat) : Int) - 1) + ((55 : Nat) : Int) + 1022).toNat = E := ⟨_, rfl⟩
      rw [hE]
      refine ⟨?_, fun h => absurd (by rw [h]) hll⟩
      by_cases hk : (2 * d + r) / 8 + c = 9007199254740992
      · rw [hk]; exact okR_top E (by omega)
      · exact okR_of E _ (by omega) (by omega) (by omega)
  · have d1 : 9007199254740992 ≤ a * 18014398509481984 / b := by
      rw [Nat.le_div_iff_mul_le (by omega)]; omega
    have d2 : a * 18014398509481984 / b < 18014398509481984 := by
      rw [Nat.div_lt_iff_lt_mul (by omega)]; omega
    generalize a * 18014398509481984 / b = d at *
    have lq : (2 * d + r).log2 = 54 := log2_of _ 54 (by omega) (by omega)
    obtain ⟨c, hc1, hc2, hn⟩ := nearest_big (2 * d + r) (((P.log2 + 1030 : Nat) : Int) - 1074 - ((N.log2 : Int) - 52) - ((54 : Nat) : Int) - 1) (by rw [lq]; omega) (by rw [lq]; omega) (by rw [lq]; omega)
    rw [lq] at hn hc2
    refine ⟨_, rfl, ?_⟩
    rw [hn]
    have e8 : (2 : Nat) ^ (54 - 52) = 4 := rfl
    rw [e8] at hc2 ⊢
    obtain ⟨E, hE⟩ : ∃ E, ((((P.log2 + 1030 : Nat) : Int) - 1074 - ((N.log2 : Int) - 52) - ((54 : Nat) : Int) - 1) + ((54 : Nat) : Int) + 1022).toNat = E := ⟨_, rfl⟩
    rw [hE]
    refine ⟨?_, fun h => absurd (heq h) (by omega)⟩
    by_cases hk : (2 * d + r) / 4 + c = 9007199254740992
    · rw [hk]; exact okR_top E (by omega)
    · exact okR_of E _ (by omega) (by omega) (by omega)

/-- '256 * float64(P) / float64(N)', as bits -/
def ratioM (P : Nat) : Nat := (double.mul 4643211215818981376 (floatOfInt .f64 (P : Int))).getD 0
def ratio (P N : Nat) : Nat := (double.div (ratioM P) (floatOfInt .f64 (N : Int))).getD 0

theorem log2_le_of (N k : Nat) (h : N < 2 ^ (k + 1)) : N.log2 ≤ k := by
  by_cases h0 : N = 0
  · subst h0; simp
  · have := (Nat.log2_lt h0).2 h
    omega

theorem ratio_facts (P N : Nat) (hPN : P ≤ N) (hN0 : 1 ≤ N) (hN : N < 70368744177664) :
    floatBits .mul .f64 4643211215818981376 (floatOfInt .f64 (P : Int)) = some (ratioM P) ∧ floatBits .quo .f64 (ratioM P) (floatOfInt .f64 (N : Int)) = some (ratio P N) ∧
    okR (ratio P N) ∧ (P = N → ratio P N = 4643211215818981376) := by
  have hL : N.log2 ≤ 45 := log2_le_of N 45 (by omega)
  show double.mul 4643211215818981376 (floatOfInt .f64 (P : Int)) = some (ratioM P) ∧ double.div (ratioM P) (floatOfInt .f64 (N : Int)) = some (ratio P N) ∧ _
  by_cases hP : P = 0
  · subst hP
    have m0 : double.mul 4643211215818981376 (floatOfInt .f64 ((0 : Nat) : Int)) = some 0 := by decide
    have r0 : ratioM 0 = 0 := by unfold ratioM; rw [m0]; rfl
    have d0 : double.div 0 (floatOfInt .f64 (N : Int)) = some 0 := by
      have hb := sig_bounds N (by omega) (by omega)
      unfold Format.div
      rw [read_ofInt N (by omega) (by omega), read_0]
      simp only [Datum.quotient]
      rw [if_neg (by omega)]
      simp [Nat.zero_shiftLeft, Format.write, Format.nearest, Format.word]
    have rr : ratio 0 N = 0 := by unfold ratio; rw [r0, d0]; rfl
    rw [rr, r0]
    exact ⟨m0, d0, okR_zero, fun h => by omega⟩
  · have hLP : P.log2 ≤ 52 := by
      have := (Nat.le_log2 (show N ≠ 0 by omega)).2 (Nat.le_trans (Nat.log2_self_le hP) hPN)
      omega
    have m0 := mul_256 P hP hLP
    have r0 : ratioM P = (P.log2 + 1030) * 4503599627370496 + sig P := by unfold ratioM; rw [m0]; rfl
    obtain ⟨R, hR, hok, hq⟩ := quo_ok P N hP hPN hL
    have rr : ratio P N = R := by unfold ratio; rw [r0, hR]; rfl
    rw [rr, r0]
    exact ⟨m0, hR, hok, hq⟩
end Go.Proofs.Qxb6606044a.Fl
