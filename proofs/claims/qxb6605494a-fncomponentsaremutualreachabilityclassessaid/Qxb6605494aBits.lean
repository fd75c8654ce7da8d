import Derived.Test.Qxb6605494aTarjan
import Derived.WalkKit
namespace Go.Proofs.Qxb6605494a.Bt
open Go.Proofs.Qxb6605494a.Tj
set_option linter.unusedVariables false

/-- bit q of row p -/
def bt (wd : Nat → Nat) (W p q : Nat) : Bool := (wd (p * W + q / 64)).testBit (q % 64)
/-- bit q of row s is set -/
def sb (wd : Nat → Nat) (W s q : Nat) : Nat → Nat := upd wd (s * W + q / 64) (wd (s * W + q / 64) ||| 2 ^ (q % 64))

theorem idx_inj {W p s a b : Nat} (ha : a < W) (hb : b < W) (h : p * W + a = s * W + b) : p = s ∧ a = b := by
  have hW : 0 < W := by omega
  have h1 : (p * W + a) / W = p := by rw [Nat.mul_comm, Nat.mul_add_div hW, Nat.div_eq_of_lt ha, Nat.add_zero]
  have h2 : (s * W + b) / W = s := by rw [Nat.mul_comm, Nat.mul_add_div hW, Nat.div_eq_of_lt hb, Nat.add_zero]
  have e : p = s := by rw [← h1, ← h2, h]
  subst e
  exact ⟨rfl, by omega⟩

theorem bt_sb (wd : Nat → Nat) (n s q p x : Nat) (hq : q < n) (hx : x < n) : bt (sb wd ((n + 63) / 64) s q) ((n + 63) / 64) p x = (bt wd ((n + 63) / 64) p x || (decide (p = s) && decide (x = q))) := by
  have h1 : q / 64 < (n + 63) / 64 := by omega
  have h2 : x / 64 < (n + 63) / 64 := by omega
  generalize (n + 63) / 64 = W at *
  unfold bt sb
  by_cases e : p * W + x / 64 = s * W + q / 64
  · obtain ⟨e1, e2⟩ := idx_inj h2 h1 e
    subst e1
    rw [e2, upd_same, Nat.testBit_or]
    congr 1
    rw [Nat.testBit_two_pow]
    by_cases e3 : x = q
    · subst e3; simp
    · have : q % 64 ≠ x % 64 := by omega
      simp [this, e3]
  · rw [upd_ne _ _ e]
    have : ¬ (p = s ∧ x = q) := by rintro ⟨rfl, rfl⟩; exact e rfl
    by_cases e1 : p = s
    · have : x ≠ q := fun e2 => this ⟨e1, e2⟩
      simp [this]
    · simp [e1]

theorem sb_lt (wd : Nat → Nat) (W s q : Nat) (h : ∀ i, wd i < 18446744073709551616) : ∀ i, sb wd W s q i < 18446744073709551616 := by
  intro i
  unfold sb upd
  split
  · have h1 : wd (s * W + q / 64) < 2 ^ 64 := h _
    have h2 : 2 ^ (q % 64) < 2 ^ 64 := Nat.pow_lt_pow_right (by omega) (by omega)
    exact Nat.or_lt_two_pow h1 h2
  · exact h i

theorem and_bit (x i : Nat) : (x &&& 2 ^ i = 0) ↔ x.testBit i = false := by
  rw [nat_bit, Nat.testBit_eq_decide_div_mod_eq]
  have hp := Nat.two_pow_pos i
  constructor
  · intro h
    have : x / 2 ^ i % 2 = 0 := by
      rcases Nat.mul_eq_zero.1 h with h | h
      · exact h
      · omega
    simp [this]
  · intro h
    have : x / 2 ^ i % 2 = 0 := by simp at h; omega
    rw [this, Nat.zero_mul]

/-! ### counting -/
def cntB (P : Nat → Bool) : Nat → Nat
  | 0 => 0
  | m + 1 => cntB P m + (if P m = true then 0 else 1)

theorem cntB_le (P : Nat → Bool) (n : Nat) : cntB P n ≤ n := by
  induction n with
  | zero => exact Nat.le_refl _
  | succ m ih => simp only [cntB]; split <;> omega

theorem cntB_congr {P Q : Nat → Bool} {n : Nat} (h : ∀ x, x < n → P x = Q x) : cntB P n = cntB Q n := by
  induction n with
  | zero => rfl
  | succ m ih => simp only [cntB]; rw [ih (fun x hx => h x (by omega)), h m (by omega)]

theorem cntB_set {P Q : Nat → Bool} {n t : Nat} (ht : t < n) (h0 : P t = false) (h : ∀ x, x < n → Q x = (P x || decide (x = t))) : cntB Q n + 1 = cntB P n := by
  induction n with
  | zero => omega
  | succ m ih =>
    simp only [cntB]
    by_cases e : t = m
    · subst e
      have hQ : Q t = true := by rw [h t (by omega)]; simp
      rw [hQ, h0, cntB_congr (P := Q) (Q := P) (fun x hx => by rw [h x (by omega)]; simp; omega)]
      simp
    · have hm : Q m = P m := by rw [h m (by omega)]; simp; omega
      rw [hm]
      have := ih (by omega) (fun x hx => h x (by omega))
      omega

/-! ### the search from one source -/
/-- B: what has been reached; K: what still waits; p, k: the place in hand and how many of its edges were looked at -/
structure Srch (s : Nat → List Nat) (n src : Nat) (B : Nat → Bool) (K : List Nat) : Prop where
  srcB : B src = true
  wait : ∀ q ∈ K, q < n ∧ B q = true
  sound : ∀ q, q < n → B q = true → Rch s src q
  closed : ∀ q, q < n → B q = true → q ∉ K → ∀ t ∈ s q, B t = true
  room : K.length + cntB B n ≤ n

structure SrchP (s : Nat → List Nat) (n src : Nat) (B : Nat → Bool) (K : List Nat) (p k : Nat) : Prop where
  srcB : B src = true
  pin : p < n ∧ B p = true
  wait : ∀ q ∈ K, q < n ∧ B q = true
  sound : ∀ q, q < n → B q = true → Rch s src q
  closed : ∀ q, q < n → B q = true → q ∉ K → q ≠ p → ∀ t ∈ s q, B t = true
  edges : ∀ i, i < k → ∀ t, (s p)[i]? = some t → B t = true
  room : K.length + 1 + cntB B n ≤ n

theorem Srch.pop {s : Nat → List Nat} {n src : Nat} {B : Nat → Bool} {K : List Nat} {p : Nat} (h : Srch s n src B (K ++ [p])) : SrchP s n src B K p 0 := by
  refine ⟨h.srcB, h.wait p (by simp), fun q hq => h.wait q (by simp [hq]), h.sound, fun q hq hb hk hp t ht => h.closed q hq hb (by simp [hk, hp]) t ht, fun i hi => absurd hi (Nat.not_lt_zero _), ?_⟩
  have := h.room
  rw [List.length_append] at this
  exact this

theorem SrchP.skip {s : Nat → List Nat} {n src : Nat} {B : Nat → Bool} {K : List Nat} {p k t : Nat} (h : SrchP s n src B K p k) (hk : (s p)[k]? = some t) (ht : B t = true) : SrchP s n src B K p (k + 1) := by
  refine ⟨h.srcB, h.pin, h.wait, h.sound, h.closed, fun i hi t' ht' => ?_, h.room⟩
  by_cases e : i < k
  · exact h.edges i e t' ht'
  · obtain rfl : i = k := by omega
    rw [hk] at ht'
    injection ht' with ht'
    rw [← ht']; exact ht

theorem SrchP.push {s : Nat → List Nat} {n src : Nat} {B B' : Nat → Bool} {K : List Nat} {p k t : Nat} (h : SrchP s n src B K p k) (hk : (s p)[k]? = some t) (htn : t < n) (ht : B t = false)
    (hs : ∀ q, q < n → ∀ t ∈ s q, t < n) (hsrc : src < n)
    (hB : ∀ x, x < n → B' x = (B x || decide (x = t))) : SrchP s n src B' (K ++ [t]) p (k + 1) := by
  have hmono : ∀ x, x < n → B x = true → B' x = true := fun x hx hb => by rw [hB x hx, hb]; rfl
  have ht' : B' t = true := by rw [hB t htn]; simp
  have hmem : t ∈ s p := List.mem_of_getElem? hk
  have hc := cntB_set htn ht hB
  refine ⟨hmono _ hsrc h.srcB, ⟨h.pin.1, hmono _ h.pin.1 h.pin.2⟩, ?_, ?_, ?_, ?_, ?_⟩
  · intro q hq
    rcases List.mem_append.1 hq with hq | hq
    · exact ⟨(h.wait q hq).1, hmono _ (h.wait q hq).1 (h.wait q hq).2⟩
    · rw [List.mem_singleton.1 hq]; exact ⟨htn, ht'⟩
  · intro q hq hb
    by_cases e : q = t
    · rw [e]; exact (h.sound p h.pin.1 h.pin.2).trans (Rch.edge hmem)
    · rw [hB q hq] at hb; simp [e] at hb; exact h.sound q hq hb
  · intro q hq hb hk' hp x hx
    have e : q ≠ t := fun e => hk' (by simp [e])
    rw [hB q hq] at hb; simp [e] at hb
    exact hmono _ (hs q hq x hx) (h.closed q hq hb (fun hm => hk' (by simp [hm])) hp x hx)
  · intro i hi x hx
    by_cases e : i < k
    · exact hmono _ (hs p h.pin.1 x (List.mem_of_getElem? hx)) (h.edges i e x hx)
    · obtain rfl : i = k := by omega
      rw [hk] at hx
      injection hx with hx
      rw [← hx]; exact ht'
  · rw [List.length_append]
    have := h.room
    simp only [List.length_singleton]
    omega

theorem SrchP.finish {s : Nat → List Nat} {n src : Nat} {B : Nat → Bool} {K : List Nat} {p k : Nat} (h : SrchP s n src B K p k) (hk : (s p).length ≤ k) : Srch s n src B K := by
  refine ⟨h.srcB, h.wait, h.sound, fun q hq hb hK t ht => ?_, by have := h.room; omega⟩
  by_cases e : q = p
  · subst e
    obtain ⟨i, hi, e2⟩ := List.getElem_of_mem ht
    exact h.edges i (by omega) t (by rw [← e2]; exact List.getElem?_eq_getElem hi)
  · exact h.closed q hq hb hK e t ht

theorem Srch.start {s : Nat → List Nat} {n src : Nat} {B : Nat → Bool} (hn : src < n) (hB : ∀ x, x < n → B x = decide (x = src)) : Srch s n src B [src] := by
  have h1 : B src = true := by rw [hB src hn]; simp
  refine ⟨h1, fun q hq => by rw [List.mem_singleton.1 hq]; exact ⟨hn, h1⟩, ?_, ?_, ?_⟩
  · intro q hq hb; rw [hB q hq] at hb; simp at hb; rw [hb]; exact Rch.refl _
  · intro q hq hb hk; rw [hB q hq] at hb; simp at hb; exact absurd (by simp [hb]) hk
  · have hc := cntB_set (P := fun _ => false) (Q := B) hn rfl (fun x hx => by rw [hB x hx]; simp)
    have := cntB_le (fun _ => false) n
    simp only [List.length_singleton]; omega

theorem Srch.done {s : Nat → List Nat} {n src : Nat} {B : Nat → Bool} (h : Srch s n src B []) (hn : src < n) (hs : ∀ q, q < n → ∀ t ∈ s q, t < n) (q : Nat) (hq : q < n) : B q = true ↔ Rch s src q := by
  refine ⟨h.sound q hq, fun hr => ?_⟩
  have := Rch.closed (P := fun v => v < n ∧ B v = true) (fun u v hu hv => ⟨hs u hu.1 v hv, h.closed u hu.1 hu.2 (by simp) v hv⟩) hr ⟨hn, h.srcB⟩
  exact this.2
end Go.Proofs.Qxb6605494a.Bt
