import Derived.Test.Qxb6606063aWalkD
import Derived.Lib.Strings
namespace Go.Proofs.Qxb6606063a
open Go.RowKit
set_option linter.unusedVariables false

theorem fs_eq (at0 : ByteArray) (n1 n2 n3 n4 n5 : Nat) (cw : Bool) : f1 at0 n1 ++ f2 at0 n2 n3 n4 n5 cw = fs (at0 ++ bV) (at0 ++ bP) at0 (at0 ++ bG) (at0 ++ bR) n1 n2 n3 n4 n5 cw := rfl

theorem toList_app (x y : ByteArray) : (x ++ y).toList = x.toList ++ y.toList := by
  simp only [Lib.toList_data, ByteArray.data_append, Array.toList_append]

theorem ne_app (at0 x y : ByteArray) (h : x.toList ≠ y.toList) : ((at0 ++ x).toList == (at0 ++ y).toList) = false := by
  rw [beq_eq_false_iff_ne, toList_app, toList_app]
  exact fun e => h (List.append_cancel_left e)

theorem ne_app_self (at0 x : ByteArray) (h : x.toList ≠ []) : (at0.toList == (at0 ++ x).toList) = false := by
  rw [beq_eq_false_iff_ne, toList_app]
  intro e
  have := congrArg List.length e
  rw [List.length_append] at this
  exact h (List.eq_nil_of_length_eq_zero (by omega))

theorem dst (at0 : ByteArray) : Dst (at0 ++ bV) (at0 ++ bP) at0 (at0 ++ bG) (at0 ++ bR) := by
  have lV : bV.toList = [46, 118, 101, 114, 98, 115] := by decide +kernel
  have lP : bP.toList = [46, 110, 111, 110, 82, 101, 115, 111, 117, 114, 99, 101, 85, 82, 76, 115] := by decide +kernel
  have lG : bG.toList = [46, 97, 112, 105, 71, 114, 111, 117, 112, 115] := by decide +kernel
  have lR : bR.toList = [46, 114, 101, 115, 111, 117, 114, 99, 101, 115] := by decide +kernel
  constructor
  · exact ne_app _ _ _ (by rw [lP, lV]; decide)
  · exact ne_app_self _ _ (by rw [lV]; decide)
  · exact ne_app_self _ _ (by rw [lP]; decide)
  · exact ne_app _ _ _ (by rw [lG, lV]; decide)
  · exact ne_app _ _ _ (by rw [lG, lP]; decide)
  · exact beq_sw (ne_app_self _ _ (by rw [lG]; decide))
  · exact ne_app _ _ _ (by rw [lR, lV]; decide)
  · exact ne_app _ _ _ (by rw [lR, lP]; decide)
  · exact beq_sw (ne_app_self _ _ (by rw [lR]; decide))
  · exact ne_app _ _ _ (by rw [lR, lG]; decide)

theorem cellsOf_get (L : List (ByteArray × ByteArray)) (i : Nat) (h : i < L.length) :
    (cellsOf L)[i * 2]? = some (.string (L.getD i (⟨#[]⟩, ⟨#[]⟩)).1) ∧ (cellsOf L)[i * 2 + 1]? = some (.string (L.getD i (⟨#[]⟩, ⟨#[]⟩)).2) := by
  induction L generalizing i with
  | nil => cases h
  | cons p r ih =>
    cases i with
    | zero => simp [cellsOf]
    | succ i =>
      have := ih i (by simpa using h)
      rw [show (i + 1) * 2 = i * 2 + 1 + 1 by omega]
      simpa [cellsOf] using this

def dget (L : List (ByteArray × ByteArray)) (i : Nat) : ByteArray := (L.getD i (⟨#[]⟩, ⟨#[]⟩)).2

theorem Acc.form {W1 w' : World} {v : Value} {L : List (ByteArray × ByteArray)} {FS : List ByteArray} (h : Acc W1 w' v L FS) :
    ∃ a cap, v = .slice a FS.length cap ∧ Errs w' a FS.length (fget FS) (dget L) ∧ (∀ i, i < FS.length → (dget L i).toList.isEmpty = false) := by
  have hlen : FS.length = L.length := by rw [← h.flds, List.length_map]
  have hf : ∀ i, fget FS i = (L.getD i (⟨#[]⟩, ⟨#[]⟩)).1 := by
    intro i
    unfold fget
    rw [← h.flds, List.getD_eq_getElem?_getD, List.getD_eq_getElem?_getD, List.getElem?_map]
    cases L[i]? <;> rfl
  have hd : ∀ i, i < FS.length → (dget L i).toList.isEmpty = false := by
    intro i hi
    have hm : L.getD i (⟨#[]⟩, ⟨#[]⟩) ∈ L := by
      rw [List.getD_eq_getElem?_getD, List.getElem?_eq_getElem (by omega)]; exact List.getElem_mem _
    have := h.det _ hm
    unfold dget
    generalize L.getD i (⟨#[]⟩, ⟨#[]⟩) = q at *
    rw [Lib.toList_data]
    cases e : q.2.data.toList with
    | nil =>
      exfalso
      apply this
      show q.2.data.size = 0
      rw [← Array.length_toList, e]; rfl
    | cons _ _ => rfl
  have ho := h.own
  rcases ho.2 with ⟨rfl, h0⟩ | ⟨g, cap, cur, rfl, r⟩
  · refine ⟨none, 0, by rw [hlen, h0], fun i hi => by omega, hd⟩
  · refine ⟨some ⟨g, 0, none⟩, cap, by rw [hlen], fun i hi => ⟨g, rfl, ?_, ?_⟩, hd⟩
    · rw [ho.cellAt (i * 2) (by omega), hf, (cellsOf_get L i (by omega)).1]
    · rw [ho.cellAt (i * 2 + 1) (by omega), (cellsOf_get L i (by omega)).2]; rfl
end Go.Proofs.Qxb6606063a
