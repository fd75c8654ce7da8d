import Derived.Test.Qxb6606063aWalkC
namespace Go.Proofs.Qxb6606063a
open Go.RowKit
set_option linter.unusedVariables false
set_option linter.unusedSimpArgs false

/-- a slice of errors: cell 2i the field, cell 2i+1 the detail -/
def Errs (w : World) (a : Option Addr) (n : Nat) (F D : Nat → ByteArray) : Prop :=
  ∀ i, i < n → ∃ g, a = some ⟨g, 0, none⟩ ∧ w.cell? ⟨g, i * 2, none⟩ = some (.string (F i)) ∧ w.cell? ⟨g, i * 2 + 1, none⟩ = some (.string (D i))

def cntF (F : Nat → ByteArray) (f : ByteArray) : Nat → Nat
  | 0 => 0
  | k + 1 => cntF F f k + (if ((F k).toList == f.toList) = true then 1 else 0)

theorem cntF_le (F : Nat → ByteArray) (f : ByteArray) (k : Nat) : cntF F f k ≤ k := by
  induction k with
  | zero => exact Nat.le_refl _
  | succ k ih => simp only [cntF]; split <;> omega

def blamedB (F : Nat → ByteArray) (n : Nat) (f : ByteArray) (want : Bool) : Bool :=
  if want then ((cntF F f n : Nat) : Int) == 1 else ((cntF F f n : Nat) : Int) == 0

set_option maxHeartbeats 1000000 in
theorem blamed_any (a : Option Addr) (n c : Nat) (F D : Nat → ByteArray) (f : ByteArray) (want : Bool) (w : World) (hn : n ≤ 1048576) (h : Errs w a n F D) :
    Calls Try.prog 10 #[.slice a n c, .string f, .bool want] w fun e w' => e = .returned (.bool (blamedB F n f want)) ∧ w' = w := by
  go_enter Try.func10, Try.ntmps10
  go_wp2
  go_loopg [7, 8] n (fun g z i wr => w = wr ∧ ∃ (k : Nat), k ≤ n ∧ g = n - k ∧ z = .int .i64 (cntF F f k) ∧ i = .int .i64 k)
  case atStart => exact ⟨rfl, 0, Nat.zero_le _, rfl, rfl, rfl⟩
  case round =>
    obtain ⟨rfl, k, hk, rfl, rfl, rfl⟩ := hrel
    have hcl := cntF_le F f k
    by_cases hlt : k < n
    · obtain ⟨g, rfl, hc1, hc2⟩ := h k hlt
      clear h hc2
      by_cases he : ((F k).toList == f.toList) = true
      · go_wp2
        go_roundg (n - (k + 1))
        case measure => omega
        case rel => exact ⟨rfl, k + 1, by omega, rfl, by simp only [cntF]; rw [if_pos he]; go_num, by go_num⟩
      · have he' : ((F k).toList == f.toList) = false := by simpa using he
        go_wp2
        go_roundg (n - (k + 1))
        case measure => omega
        case rel => exact ⟨rfl, k + 1, by omega, rfl, by simp only [cntF]; rw [if_neg he]; go_num, by go_num⟩
    · obtain rfl : k = n := by omega
      clear h
      cases want with
      | true =>
        go_wp2
        go_ret
        exact ⟨rfl, rfl⟩
      | false =>
        go_wp2
        go_ret
        exact ⟨rfl, rfl⟩

def IdxPost (F : Nat → ByteArray) (n : Nat) (f : ByteArray) (r : Int) : Prop :=
  (∃ j : Nat, j < n ∧ r = j ∧ ((F j).toList == f.toList) = true ∧ ∀ i, i < j → ((F i).toList == f.toList) = false) ∨ (r = -1 ∧ ∀ i, i < n → ((F i).toList == f.toList) = false)

set_option maxHeartbeats 1000000 in
theorem index_any (a : Option Addr) (n c : Nat) (F D : Nat → ByteArray) (f : ByteArray) (w : World) (hn : n ≤ 1048576) (h : Errs w a n F D) :
    Calls Try.prog 11 #[.slice a n c, .string f] w fun e w' => (∃ r, e = .returned (.int .i64 r) ∧ IdxPost F n f r) ∧ w' = w := by
  go_enter Try.func11, Try.ntmps11
  go_wp2
  go_loopg [5] n (fun g i wr => w = wr ∧ ∃ (k : Nat), k ≤ n ∧ g = n - k ∧ i = .int .i64 k ∧ Hid (∀ i, i < k → ((F i).toList == f.toList) = false))
  case atStart => exact ⟨rfl, 0, Nat.zero_le _, rfl, rfl, fun i hi => absurd hi (Nat.not_lt_zero _)⟩
  case round =>
    obtain ⟨rfl, k, hk, rfl, rfl, H⟩ := hrel
    by_cases hlt : k < n
    · obtain ⟨g, rfl, hc1, hc2⟩ := h k hlt
      clear h hc2
      by_cases he : ((F k).toList == f.toList) = true
      · go_wp2
        go_ret
        exact ⟨⟨_, rfl, .inl ⟨k, hlt, rfl, he, H.out⟩⟩, rfl⟩
      · have he' : ((F k).toList == f.toList) = false := by simpa using he
        go_wp2
        go_roundg (n - (k + 1))
        case measure => omega
        case rel => exact ⟨rfl, k + 1, by omega, rfl, by go_num, fun i hi => by
          by_cases e : i = k
          · subst e; exact he'
          · exact H.out i (by omega)⟩
    · obtain rfl : k = n := by omega
      clear h
      go_wp2
      go_ret
      exact ⟨⟨_, rfl, .inr ⟨rfl, H.out⟩⟩, rfl⟩

/-! ### the plain law -/
structure Dst (V P A G R : ByteArray) : Prop where
  pv : (P.toList == V.toList) = false
  av : (A.toList == V.toList) = false
  ap : (A.toList == P.toList) = false
  gv : (G.toList == V.toList) = false
  gp : (G.toList == P.toList) = false
  ga : (G.toList == A.toList) = false
  rv : (R.toList == V.toList) = false
  rp : (R.toList == P.toList) = false
  ra : (R.toList == A.toList) = false
  rg : (R.toList == G.toList) = false

theorem beq_sw {x y : List UInt8} (h : (x == y) = false) : (y == x) = false := by
  simp only [beq_eq_false_iff_ne] at *; exact fun e => h e.symm

def fs (V P A G R : ByteArray) (n1 n2 n3 n4 n5 : Nat) (cw : Bool) : List ByteArray :=
  (if n1 = 0 then [V] else []) ++
  (if n5 = 0 then (if n2 = 0 then [G] else []) ++ (if n3 = 0 then [R] else [])
  else if cw = false then [P] else if n2 + n3 + n4 = 0 then [] else [A])

def q1 (n1 : Nat) : Bool := (n1 : Int) == 0
def qN (n2 n3 n4 : Nat) : Bool := decide (0 < n2) || decide (0 < n3) || decide (0 < n4)
def q2 (n5 : Nat) (cw : Bool) : Bool := decide (0 < n5) && !cw
def q3 (n2 n3 n4 n5 : Nat) (cw : Bool) : Bool := decide (0 < n5) && cw && qN n2 n3 n4
def q4 (n2 n5 : Nat) : Bool := decide (n5 = 0) && decide (n2 = 0)

def fget (L : List ByteArray) (i : Nat) : ByteArray := L.getD i ⟨#[]⟩

structure Law (V P A G R : ByteArray) (n1 n2 n3 n4 n5 : Nat) (cw : Bool) (F : Nat → ByteArray) (n : Nat) : Prop where
  bV : blamedB F n V (q1 n1) = true
  bP : blamedB F n P (q2 n5 cw) = true
  bA : blamedB F n A (q3 n2 n3 n4 n5 cw) = true
  bG : blamedB F n G (q4 n2 n5) = true
  bR : blamedB F n R (q4 n3 n5) = true
  mem : ∀ i, i < n → F i = V ∨ F i = P ∨ F i = A ∨ F i = G ∨ F i = R
  hdV : q1 n1 = true → 0 < n ∧ F 0 = V
  ord : q4 n2 n5 = true → q4 n3 n5 = true → ∀ i, i < n → F i = R → ∃ j, j < i ∧ F j = G
  exR : q4 n3 n5 = true → ∃ i, i < n ∧ F i = R
  few : n ≤ 3

theorem law {V P A G R : ByteArray} (h : Dst V P A G R) (n1 n2 n3 n4 n5 : Nat) (cw : Bool) :
    Law V P A G R n1 n2 n3 n4 n5 cw (fget (fs V P A G R n1 n2 n3 n4 n5 cw)) (fs V P A G R n1 n2 n3 n4 n5 cw).length := by
  have t1 := h.pv; have t2 := h.av; have t3 := h.ap; have t4 := h.gv; have t5 := h.gp; have t6 := h.ga; have t7 := h.rv; have t8 := h.rp; have t9 := h.ra; have t10 := h.rg
  have s1 := beq_sw t1; have s2 := beq_sw t2; have s3 := beq_sw t3; have s4 := beq_sw t4; have s5 := beq_sw t5; have s6 := beq_sw t6; have s7 := beq_sw t7; have s8 := beq_sw t8; have s9 := beq_sw t9; have s10 := beq_sw t10
  have nRV : R ≠ V := fun e => by rw [e] at t7; simp at t7
  have nRG : R ≠ G := fun e => by rw [e] at t10; simp at t10
  have nVR : V ≠ R := fun e => nRV e.symm
  have nGR : G ≠ R := fun e => nRG e.symm
  have key : ∀ M, fs V P A G R n1 n2 n3 n4 n5 cw = M → Law V P A G R n1 n2 n3 n4 n5 cw (fget M) M.length → Law V P A G R n1 n2 n3 n4 n5 cw (fget (fs V P A G R n1 n2 n3 n4 n5 cw)) (fs V P A G R n1 n2 n3 n4 n5 cw).length := fun M e hM => by rw [e]; exact hM
  by_cases e1 : n1 = 0
  · by_cases e5 : n5 = 0
    · by_cases e2 : n2 = 0
      · by_cases e3 : n3 = 0
        · refine key [V, G, R] (by simp [fs, e1, e2, e3, e5]) ?_
          constructor
          case mem => intro i hi; rcases i with _ | _ | _ | i <;> first | (simp [fget]; done) | (exfalso; simp at hi; done) | (exfalso; simp at hi; omega)
          case ord => intro _ _ i hi hR; rcases i with _ | _ | _ | i <;> first | (exact ⟨1, by omega, rfl⟩) | (exfalso; simp [fget, nVR, nGR] at hR; done) | (exfalso; simp at hi; done) | (exfalso; simp at hi; omega)
          case exR => intro _; exact ⟨2, by simp, rfl⟩
          all_goals simp [blamedB, cntF, fget, q1, q2, q3, q4, qN, e1, e2, e3, e5, t1, t2, t3, t4, t5, t6, t7, t8, t9, t10, s1, s2, s3, s4, s5, s6, s7, s8, s9, s10]
        · refine key [V, G] (by simp [fs, e1, e2, e3, e5]) ?_
          constructor
          case mem => intro i hi; rcases i with _ | _ | _ | i <;> first | (simp [fget]; done) | (exfalso; simp at hi; done) | (exfalso; simp at hi; omega)
          case ord => intro _ h; simp [q4, e3, e5] at h
          case exR => intro h; simp [q4, e3, e5] at h
          all_goals simp [blamedB, cntF, fget, q1, q2, q3, q4, qN, e1, e2, e3, e5, t1, t2, t3, t4, t5, t6, t7, t8, t9, t10, s1, s2, s3, s4, s5, s6, s7, s8, s9, s10]
      · by_cases e3 : n3 = 0
        · refine key [V, R] (by simp [fs, e1, e2, e3, e5]) ?_
          constructor
          case mem => intro i hi; rcases i with _ | _ | _ | i <;> first | (simp [fget]; done) | (exfalso; simp at hi; done) | (exfalso; simp at hi; omega)
          case ord => intro h; simp [q4, e2, e5] at h
          case exR => intro _; exact ⟨1, by simp, rfl⟩
          all_goals simp [blamedB, cntF, fget, q1, q2, q3, q4, qN, e1, e2, e3, e5, t1, t2, t3, t4, t5, t6, t7, t8, t9, t10, s1, s2, s3, s4, s5, s6, s7, s8, s9, s10]
        · refine key [V] (by simp [fs, e1, e2, e3, e5]) ?_
          constructor
          case mem => intro i hi; rcases i with _ | _ | _ | i <;> first | (simp [fget]; done) | (exfalso; simp at hi; done) | (exfalso; simp at hi; omega)
          case ord => intro _ h; simp [q4, e3, e5] at h
          case exR => intro h; simp [q4, e3, e5] at h
          all_goals simp [blamedB, cntF, fget, q1, q2, q3, q4, qN, e1, e2, e3, e5, t1, t2, t3, t4, t5, t6, t7, t8, t9, t10, s1, s2, s3, s4, s5, s6, s7, s8, s9, s10]
    · have e5p : 0 < n5 := by omega
      cases cw with
      | false =>
        refine key [V, P] (by simp [fs, e1, e5, e5p]) ?_
        constructor
        case mem => intro i hi; rcases i with _ | _ | _ | i <;> first | (simp [fget]; done) | (exfalso; simp at hi; done) | (exfalso; simp at hi; omega)
        case ord => intro h; simp [q4, e5] at h
        case exR => intro h; simp [q4, e5] at h
        all_goals simp [blamedB, cntF, fget, q1, q2, q3, q4, qN, e1, e5, e5p, t1, t2, t3, t4, t5, t6, t7, t8, t9, t10, s1, s2, s3, s4, s5, s6, s7, s8, s9, s10]
      | true =>
        by_cases e4 : n2 + n3 + n4 = 0
        · have e2 : n2 = 0 := by omega
          have e3 : n3 = 0 := by omega
          have e6 : n4 = 0 := by omega
          refine key [V] (by simp [fs, e1, e5, e5p, e2, e3, e6]) ?_
          constructor
          case mem => intro i hi; rcases i with _ | _ | _ | i <;> first | (simp [fget]; done) | (exfalso; simp at hi; done) | (exfalso; simp at hi; omega)
          case ord => intro h; simp [q4, e5] at h
          case exR => intro h; simp [q4, e5] at h
          all_goals simp [blamedB, cntF, fget, q1, q2, q3, q4, qN, e1, e5, e5p, e2, e3, e6, t1, t2, t3, t4, t5, t6, t7, t8, t9, t10, s1, s2, s3, s4, s5, s6, s7, s8, s9, s10]
        · have e7 : qN n2 n3 n4 = true := by unfold qN; simp; omega
          refine key [V, A] (by simp only [fs]; rw [if_neg e5, if_neg (show ¬ (true = false) by decide), if_neg e4]; simp [e1]) ?_
          constructor
          case mem => intro i hi; rcases i with _ | _ | _ | i <;> first | (simp [fget]; done) | (exfalso; simp at hi; done) | (exfalso; simp at hi; omega)
          case ord => intro h; simp [q4, e5] at h
          case exR => intro h; simp [q4, e5] at h
          all_goals simp [blamedB, cntF, fget, q1, q2, q3, q4, e1, e5, e5p, e4, e7, t1, t2, t3, t4, t5, t6, t7, t8, t9, t10, s1, s2, s3, s4, s5, s6, s7, s8, s9, s10]
  · by_cases e5 : n5 = 0
    · by_cases e2 : n2 = 0
      · by_cases e3 : n3 = 0
        · refine key [G, R] (by simp [fs, e1, e2, e3, e5]) ?_
          constructor
          case mem => intro i hi; rcases i with _ | _ | _ | i <;> first | (simp [fget]; done) | (exfalso; simp at hi; done) | (exfalso; simp at hi; omega)
          case ord => intro _ _ i hi hR; rcases i with _ | _ | _ | i <;> first | (exact ⟨0, by omega, rfl⟩) | (exfalso; simp [fget, nVR, nGR] at hR; done) | (exfalso; simp at hi; done) | (exfalso; simp at hi; omega)
          case exR => intro _; exact ⟨1, by simp, rfl⟩
          all_goals simp [blamedB, cntF, fget, q1, q2, q3, q4, qN, e1, e2, e3, e5, t1, t2, t3, t4, t5, t6, t7, t8, t9, t10, s1, s2, s3, s4, s5, s6, s7, s8, s9, s10]
        · refine key [G] (by simp [fs, e1, e2, e3, e5]) ?_
          constructor
          case mem => intro i hi; rcases i with _ | _ | _ | i <;> first | (simp [fget]; done) | (exfalso; simp at hi; done) | (exfalso; simp at hi; omega)
          case ord => intro _ h; simp [q4, e3, e5] at h
          case exR => intro h; simp [q4, e3, e5] at h
          all_goals simp [blamedB, cntF, fget, q1, q2, q3, q4, qN, e1, e2, e3, e5, t1, t2, t3, t4, t5, t6, t7, t8, t9, t10, s1, s2, s3, s4, s5, s6, s7, s8, s9, s10]
      · by_cases e3 : n3 = 0
        · refine key [R] (by simp [fs, e1, e2, e3, e5]) ?_
          constructor
          case mem => intro i hi; rcases i with _ | _ | _ | i <;> first | (simp [fget]; done) | (exfalso; simp at hi; done) | (exfalso; simp at hi; omega)
          case ord => intro h; simp [q4, e2, e5] at h
          case exR => intro _; exact ⟨0, by simp, rfl⟩
          all_goals simp [blamedB, cntF, fget, q1, q2, q3, q4, qN, e1, e2, e3, e5, t1, t2, t3, t4, t5, t6, t7, t8, t9, t10, s1, s2, s3, s4, s5, s6, s7, s8, s9, s10]
        · refine key [] (by simp [fs, e1, e2, e3, e5]) ?_
          constructor
          case mem => intro i hi; rcases i with _ | _ | _ | i <;> first | (simp [fget]; done) | (exfalso; simp at hi; done) | (exfalso; simp at hi; omega)
          case ord => intro _ h; simp [q4, e3, e5] at h
          case exR => intro h; simp [q4, e3, e5] at h
          all_goals simp [blamedB, cntF, fget, q1, q2, q3, q4, qN, e1, e2, e3, e5, t1, t2, t3, t4, t5, t6, t7, t8, t9, t10, s1, s2, s3, s4, s5, s6, s7, s8, s9, s10]
    · have e5p : 0 < n5 := by omega
      cases cw with
      | false =>
        refine key [P] (by simp [fs, e1, e5, e5p]) ?_
        constructor
        case mem => intro i hi; rcases i with _ | _ | _ | i <;> first | (simp [fget]; done) | (exfalso; simp at hi; done) | (exfalso; simp at hi; omega)
        case ord => intro h; simp [q4, e5] at h
        case exR => intro h; simp [q4, e5] at h
        all_goals simp [blamedB, cntF, fget, q1, q2, q3, q4, qN, e1, e5, e5p, t1, t2, t3, t4, t5, t6, t7, t8, t9, t10, s1, s2, s3, s4, s5, s6, s7, s8, s9, s10]
      | true =>
        by_cases e4 : n2 + n3 + n4 = 0
        · have e2 : n2 = 0 := by omega
          have e3 : n3 = 0 := by omega
          have e6 : n4 = 0 := by omega
          refine key [] (by simp [fs, e1, e5, e5p, e2, e3, e6]) ?_
          constructor
          case mem => intro i hi; rcases i with _ | _ | _ | i <;> first | (simp [fget]; done) | (exfalso; simp at hi; done) | (exfalso; simp at hi; omega)
          case ord => intro h; simp [q4, e5] at h
          case exR => intro h; simp [q4, e5] at h
          all_goals simp [blamedB, cntF, fget, q1, q2, q3, q4, qN, e1, e5, e5p, e2, e3, e6, t1, t2, t3, t4, t5, t6, t7, t8, t9, t10, s1, s2, s3, s4, s5, s6, s7, s8, s9, s10]
        · have e7 : qN n2 n3 n4 = true := by unfold qN; simp; omega
          refine key [A] (by simp only [fs]; rw [if_neg e5, if_neg (show ¬ (true = false) by decide), if_neg e4]; simp [e1]) ?_
          constructor
          case mem => intro i hi; rcases i with _ | _ | _ | i <;> first | (simp [fget]; done) | (exfalso; simp at hi; done) | (exfalso; simp at hi; omega)
          case ord => intro h; simp [q4, e5] at h
          case exR => intro h; simp [q4, e5] at h
          all_goals simp [blamedB, cntF, fget, q1, q2, q3, q4, e1, e5, e5p, e4, e7, t1, t2, t3, t4, t5, t6, t7, t8, t9, t10, s1, s2, s3, s4, s5, s6, s7, s8, s9, s10]
end Go.Proofs.Qxb6606063a
