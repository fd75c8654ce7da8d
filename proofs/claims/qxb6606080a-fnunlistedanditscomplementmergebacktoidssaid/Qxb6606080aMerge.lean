import Derived.Test.Qxb6606080aPlain
namespace Go.Proofs.Qxb6606080a.Pl
set_option linter.unusedVariables false

/-- how many of the first k are of the kind q -/
def cntQ (q : ByteArray → Bool) (ids : List ByteArray) (k : Nat) : Nat := ((ids.take k).filter q).length

theorem cntQ_zero (q : ByteArray → Bool) (ids : List ByteArray) : cntQ q ids 0 = 0 := by simp [cntQ]

theorem cntQ_succ (q : ByteArray → Bool) (ids : List ByteArray) (k : Nat) (h : k < ids.length) : cntQ q ids (k + 1) = cntQ q ids k + (if q (get ids k) = true then 1 else 0) := by
  unfold cntQ
  rw [take_snoc ids k h, List.filter_append, List.length_append]
  cases hq : q (get ids k) <;> simp [hq]

theorem cntQ_full (q : ByteArray → Bool) (ids : List ByteArray) : cntQ q ids ids.length = (ids.filter q).length := by simp [cntQ]

theorem filter_split (q : ByteArray → Bool) (ids : List ByteArray) (k : Nat) : ids.filter q = (ids.take k).filter q ++ (ids.drop k).filter q := by
  rw [← List.filter_append, List.take_append_drop]

theorem get_append_right (A B : List ByteArray) : get (A ++ B) A.length = get B 0 := by
  unfold get
  rw [List.getD_eq_getElem?_getD, List.getD_eq_getElem?_getD, List.getElem?_append_right (Nat.le_refl _), Nat.sub_self]

/-- the next of the kind q: it is the k-th itself where that is of the kind -/
theorem get_hit (q : ByteArray → Bool) (ids : List ByteArray) (k : Nat) (h : k < ids.length) (hq : q (get ids k) = true) :
    cntQ q ids k < (ids.filter q).length ∧ get (ids.filter q) (cntQ q ids k) = get ids k := by
  have hd : ids.drop k = get ids k :: ids.drop (k + 1) := by rw [List.drop_eq_getElem_cons h, get_lt ids k h]
  have e := filter_split q ids k
  constructor
  · rw [e, hd, List.filter_cons, if_pos hq]; unfold cntQ; simp
  · rw [e]; unfold cntQ; rw [get_append_right, hd, List.filter_cons, if_pos hq]; rfl

/-- the next of the kind q, wherever it lies: not less than the k-th -/
theorem get_later (q : ByteArray → Bool) (ids : List ByteArray) (hu : Up ids) (k : Nat) (h : k < ids.length) (hi : cntQ q ids k < (ids.filter q).length) :
    q (get (ids.filter q) (cntQ q ids k)) = true ∧ lt (get (ids.filter q) (cntQ q ids k)).toList (get ids k).toList = false := by
  have e := filter_split q ids k
  have hne : (ids.drop k).filter q ≠ [] := by
    intro h0
    rw [e, h0, List.append_nil] at hi
    exact absurd hi (Nat.lt_irrefl _)
  have hg : get (ids.filter q) (cntQ q ids k) = get ((ids.drop k).filter q) 0 := by rw [e]; unfold cntQ; rw [get_append_right]
  have hl : 0 < ((ids.drop k).filter q).length := List.length_pos_iff.2 hne
  have hm : get ((ids.drop k).filter q) 0 ∈ (ids.drop k).filter q := by rw [get_lt _ 0 hl]; exact List.getElem_mem hl
  rw [hg]
  obtain ⟨hm1, hm2⟩ := List.mem_filter.1 hm
  refine ⟨hm2, ?_⟩
  obtain ⟨t, ht, et⟩ := List.getElem_of_mem hm1
  rw [← et, List.getElem_drop]
  have := hu.le' (show k ≤ k + t by omega) (show k + t < ids.length by simp at ht; omega)
  rwa [get_lt ids (k + t) (by simp at ht; omega)] at this

theorem cntQ_le (q : ByteArray → Bool) (ids : List ByteArray) (k : Nat) : cntQ q ids k ≤ (ids.filter q).length := by
  rw [filter_split q ids k, List.length_append]; unfold cntQ; omega

/-- what the merge's test says -/
theorem leq_of (x y : List UInt8) (h : lt y x = false) : (lt x y || x == y) = true := by
  cases h1 : lt x y with
  | true => rfl
  | false => have := lt_total x y h1 h; subst this; simp

theorem not_leq_of (x y : List UInt8) (h : lt x y = false) (hne : x ≠ y) : (lt x y || x == y) = false := by
  rw [h]; simpa using hne

/-- the two halves of ids -/
theorem present_eq (ids listed : List ByteArray) : diff ids (diff ids listed) = ids.filter fun x => memB listed x := by
  unfold diff
  apply List.filter_congr
  intro x hx
  cases hm : memB listed x with
  | true =>
    have : memB (ids.filter fun x => !memB listed x) x = false := by
      cases h : memB (ids.filter fun x => !memB listed x) x with
      | false => rfl
      | true =>
        rw [memB_iff_mem] at h
        have := (List.mem_filter.1 h).2
        rw [hm] at this; cases this
    rw [this]; rfl
  | false =>
    have : memB (ids.filter fun x => !memB listed x) x = true := by
      rw [memB_iff_mem]
      exact List.mem_filter.2 ⟨hx, by rw [hm]; rfl⟩
    rw [this]; rfl

theorem halves_length (ids : List ByteArray) (q : ByteArray → Bool) : (ids.filter q).length + (ids.filter fun x => !q x).length = ids.length := by
  induction ids with
  | nil => rfl
  | cons x r ih =>
    rw [List.filter_cons, List.filter_cons]
    cases h : q x <;> simp <;> omega

theorem Up.filter {L : List ByteArray} (h : Up L) (q : ByteArray → Bool) : Up (L.filter q) := by
  have hp : List.Pairwise (fun a b : ByteArray => lt b.toList a.toList = false) L := by
    rw [List.pairwise_iff_getElem]
    intro i j hi hj hij
    have := h.le' (show i ≤ j by omega) hj
    rwa [get_lt L i hi, get_lt L j hj] at this
  have hf := hp.filter q
  rw [List.pairwise_iff_getElem] at hf
  intro i hi
  rw [get_lt _ _ hi, get_lt _ i (by omega)]
  exact hf i (i + 1) (by omega) hi (by omega)
end Go.Proofs.Qxb6606080a.Pl
