import Derived.WalkKit
import Derived.Lib.Strings
namespace Go.Proofs.Qxb6606080a.Pl
set_option linter.unusedVariables false

/-! ### Go's order on strings -/
abbrev lt (x y : List UInt8) : Bool := Op.bytesLess x y

theorem lt_irrefl (x : List UInt8) : lt x x = false := by
  induction x with
  | nil => rfl
  | cons a x ih => simp [lt, Op.bytesLess] at *; exact ih

theorem lt_trans : ∀ x y z : List UInt8, lt x y = true → lt y z = true → lt x z = true := by
  intro x
  induction x with
  | nil =>
    intro y z h1 h2
    cases z with
    | nil => cases y <;> simp [lt, Op.bytesLess] at h2
    | cons c z => rfl
  | cons a x ih =>
    intro y z h1 h2
    cases y with
    | nil => simp [lt, Op.bytesLess] at h1
    | cons b y =>
      cases z with
      | nil => simp [lt, Op.bytesLess] at h2
      | cons c z =>
        simp [lt, Op.bytesLess] at h1 h2 ⊢
        rcases h1 with h1 | ⟨rfl, h1⟩
        · rcases h2 with h2 | ⟨rfl, _⟩
          · left; exact UInt8.lt_trans h1 h2
          · left; exact h1
        · rcases h2 with h2 | ⟨rfl, h2⟩
          · left; exact h2
          · right; exact ⟨rfl, ih y z h1 h2⟩

theorem lt_total : ∀ x y : List UInt8, lt x y = false → lt y x = false → x = y := by
  intro x
  induction x with
  | nil =>
    intro y h1 h2
    cases y with
    | nil => rfl
    | cons b y => simp [lt, Op.bytesLess] at h1
  | cons a x ih =>
    intro y h1 h2
    cases y with
    | nil => simp [lt, Op.bytesLess] at h2
    | cons b y =>
      simp [lt, Op.bytesLess] at h1 h2
      have hab : a = b := UInt8.le_antisymm h2.1 h1.1
      subst hab
      rw [ih y (h1.2 rfl) (h2.2 rfl)]

/-- not less, carried along -/
theorem le_trans (x y z : List UInt8) (h1 : lt y x = false) (h2 : lt z y = false) : lt z x = false := by
  cases h : lt z x with
  | false => rfl
  | true =>
    cases h3 : lt x y with
    | true => rw [lt_trans z x y h h3] at h2; cases h2
    | false => have := lt_total x y h3 h1; subst this; rw [h2] at h; cases h

theorem lt_of_lt_of_le (x y z : List UInt8) (h1 : lt x y = true) (h2 : lt z y = false) : lt x z = true := by
  cases h : lt x z with
  | true => rfl
  | false =>
    cases h3 : lt z x with
    | true => rw [lt_trans z x y h3 h1] at h2; cases h2
    | false => have := lt_total x z h h3; subst this; rw [h1] at h2; cases h2

theorem lt_of_le_of_lt (x y z : List UInt8) (h1 : lt y x = false) (h2 : lt y z = true) : lt x z = true := by
  cases h : lt x z with
  | true => rfl
  | false =>
    cases h3 : lt x y with
    | true => rw [lt_trans x y z h3 h2] at h; cases h
    | false => have := lt_total x y h3 h1; subst this; rw [h2] at h; cases h

theorem ba_eq {x y : ByteArray} (h : x.toList = y.toList) : x = y := by
  rw [Lib.toList_data, Lib.toList_data] at h
  cases x; cases y
  congr 1
  exact Array.ext' h

/-! ### sorted rows, membership -/
def get (L : List ByteArray) (i : Nat) : ByteArray := L.getD i ByteArray.empty

theorem get_lt (L : List ByteArray) (i : Nat) (h : i < L.length) : get L i = L[i] := by
  unfold get; rw [List.getD_eq_getElem?_getD, List.getElem?_eq_getElem h]; rfl

def Up (L : List ByteArray) : Prop := ∀ i, i + 1 < L.length → lt (get L (i + 1)).toList (get L i).toList = false

theorem Up.le {L : List ByteArray} (h : Up L) : ∀ d i, i + d < L.length → lt (get L (i + d)).toList (get L i).toList = false := by
  intro d
  induction d with
  | zero => intro i _; exact lt_irrefl _
  | succ d ih => intro i hi; exact le_trans _ _ _ (ih i (by omega)) (h (i + d) (by omega))

theorem Up.le' {L : List ByteArray} (h : Up L) {i j : Nat} (hij : i ≤ j) (hj : j < L.length) : lt (get L j).toList (get L i).toList = false := by
  have := h.le (j - i) i (by omega)
  rwa [show i + (j - i) = j by omega] at this

def memB (L : List ByteArray) (x : ByteArray) : Bool := L.any fun y => y.toList == x.toList

theorem memB_iff (L : List ByteArray) (x : ByteArray) : memB L x = true ↔ ∃ i, i < L.length ∧ get L i = x := by
  unfold memB
  rw [List.any_eq_true]
  constructor
  · rintro ⟨y, hy, e⟩
    obtain ⟨i, hi, rfl⟩ := List.getElem_of_mem hy
    exact ⟨i, hi, by rw [get_lt L i hi]; exact ba_eq (eq_of_beq e)⟩
  · rintro ⟨i, hi, e⟩
    refine ⟨get L i, ?_, by rw [e]; simp⟩
    rw [get_lt L i hi]; exact List.getElem_mem hi

theorem memB_iff_mem (L : List ByteArray) (x : ByteArray) : memB L x = true ↔ x ∈ L := by
  rw [memB_iff]
  constructor
  · rintro ⟨i, hi, rfl⟩; rw [get_lt L i hi]; exact List.getElem_mem hi
  · intro h
    obtain ⟨i, hi, rfl⟩ := List.getElem_of_mem h
    exact ⟨i, hi, get_lt L i hi⟩

/-- what unlisted answers -/
def diff (ids listed : List ByteArray) : List ByteArray := ids.filter fun x => !memB listed x

theorem take_snoc (L : List ByteArray) (k : Nat) (h : k < L.length) : L.take (k + 1) = L.take k ++ [get L k] := by
  rw [List.take_succ_eq_append_getElem h, get_lt L k h]

theorem diff_snoc (ids listed : List ByteArray) (k : Nat) (h : k < ids.length) :
    diff (ids.take (k + 1)) listed = diff (ids.take k) listed ++ (if memB listed (get ids k) = true then [] else [get ids k]) := by
  unfold diff
  rw [take_snoc ids k h, List.filter_append]
  congr 1
  cases hm : memB listed (get ids k) <;> simp [hm]

/-- the place that the scan of 'listed' has come to: all before it are less than the last id that was seen -/
def Seen (ids listed : List ByteArray) (k j : Nat) : Prop := ∀ i, i < j → ∀ m, k ≤ m → m < ids.length → lt (get listed i).toList (get ids m).toList = true

theorem Seen.zero (ids listed : List ByteArray) (k : Nat) : Seen ids listed k 0 := fun i hi => absurd hi (Nat.not_lt_zero _)

theorem Seen.mono {ids listed : List ByteArray} {k k' j : Nat} (h : Seen ids listed k j) (hk : k ≤ k') : Seen ids listed k' j :=
  fun i hi m hm hml => h i hi m (by omega) hml

theorem Seen.step {ids listed : List ByteArray} {k j : Nat} (hu : Up ids) (h : Seen ids listed k j) (hl : lt (get listed j).toList (get ids k).toList = true) : Seen ids listed k (j + 1) := by
  intro i hi m hm hml
  by_cases e : i = j
  · subst e
    exact lt_of_lt_of_le _ _ _ hl (hu.le' hm hml)
  · exact h i (by omega) m hm hml

/-- the scan has come to its end at id k: is it listed? -/
theorem Seen.mem {ids listed : List ByteArray} {k j : Nat} (hul : Up listed) (h : Seen ids listed k j) (hk : k < ids.length) (hj : j < listed.length)
    (hn : lt (get listed j).toList (get ids k).toList = false) : memB listed (get ids k) = ((get listed j).toList == (get ids k).toList) := by
  cases hb : (get listed j).toList == (get ids k).toList with
  | true =>
    rw [memB_iff]
    exact ⟨j, hj, ba_eq (eq_of_beq hb)⟩
  | false =>
    cases hm : memB listed (get ids k) with
    | false => rfl
    | true =>
      exfalso
      obtain ⟨i, hi, e⟩ := (memB_iff _ _).1 hm
      by_cases hij : i < j
      · have := h i hij k (Nat.le_refl _) hk
        rw [e, lt_irrefl] at this; cases this
      · have h1 := hul.le' (show j ≤ i by omega) hi
        rw [e] at h1
        have := lt_total _ _ hn h1
        rw [this] at hb
        simp at hb

theorem Seen.none {ids listed : List ByteArray} {k j : Nat} (h : Seen ids listed k j) (hk : k < ids.length) (hj : listed.length ≤ j) : memB listed (get ids k) = false := by
  cases hm : memB listed (get ids k) with
  | false => rfl
  | true =>
    exfalso
    obtain ⟨i, hi, e⟩ := (memB_iff _ _).1 hm
    have := h i (by omega) k (Nat.le_refl _) hk
    rw [e, lt_irrefl] at this; cases this

end Go.Proofs.Qxb6606080a.Pl
