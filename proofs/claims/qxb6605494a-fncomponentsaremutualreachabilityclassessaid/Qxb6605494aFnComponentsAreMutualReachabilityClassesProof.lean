/-
  The row's step for FnComponentsAreMutualReachabilityClasses: the kit's frame (written by program for another seat) turned to a slice of ints and a slice of slices of int32.
-/
import Derived.Test.Qxb6605494aRows
import Derived.WalkKit
import Derived.ProofKit
import Derived.ShutString
import Derived.OpenShut
import Derived.ChangeOld
import Derived.Below
import Derived.Deep.Matrix
import Derived.Test.Qxb6605494aWalkH
namespace Go.Proofs.Qxb6605494a.fnComponentsAreMutualReachabilityClasses
open Go.ChangeShapes Go.WideShapes Go.ChangeAt Go.RowKit
set_option linter.unusedVariables false

theorem own : ownKnob Try.prog.godebug = none := by kernel_rfl
theorem laidOut : laidOutB Try.prog = true := by kernel_rfl

theorem open_sl {H : Type} {enc : TypeId × Value → H} {W : World} {a : Option Addr} {n c : Nat} {d : DataW H} {p : List MemPlace} (h : DataW.Trod enc Try.prog W 0 (fun _ => true) true 22 (.slice a n c) d p) :
    ∃ z : Nat → Int, Row .i64 0 W a n z ∧ n ≤ 9223372036854775807 ∧ (a = none → n = 0 ∧ c = 0) := by
  obtain ⟨fuel, hf⟩ := h
  rcases open_ints Try.underlying22 Try.underlying3 (by kernel_rfl) hf with ⟨hcs, _⟩ | ⟨x, l, c', zs, hcs, _, hl, hm, hz, _, hcell, hws⟩
  · simp [Value.cells] at hcs
    obtain ⟨rfl, rfl, rfl⟩ := hcs
    exact ⟨fun _ => 0, fun i hi => absurd hi (Nat.not_lt_zero _), by omega, fun _ => ⟨rfl, rfl⟩⟩
  · simp [Value.cells] at hcs
    obtain ⟨rfl, rfl, rfl⟩ := hcs
    simp only [if_true] at hz
    unfold maxLen at hm
    refine ⟨fun i => zs.getD i 0, fun i hi => ?_, by omega, fun h => by cases h⟩
    obtain ⟨b, off, spot⟩ := x
    have hspot : spot = none := by simpa [Addr.add] using World.cell?_spot (hcell 0 (by omega))
    subst hspot
    refine ⟨b, off, rfl, Nat.zero_le _, ?_⟩
    have := hcell i (by omega)
    rwa [add_plain] at this

theorem open_mat {H : Type} {enc : TypeId × Value → H} {W : World} {a : Option Addr} {n c : Nat} {d : DataW H} {p : List MemPlace} (h : DataW.Trod enc Try.prog W 0 (fun _ => true) true 23 (.slice a n c) d p) :
    ∃ (A : Nat → Option Addr) (L C : Nat → Nat) (Z : Nat → Nat → Int), Mat 0 W a n A L C Z ∧ n ≤ 9223372036854775807 ∧ (a = none → n = 0 ∧ c = 0) ∧ (∀ i, i < n → L i ≤ 9223372036854775807) ∧ (∀ i, i < n → A i = none → L i = 0) ∧
      ∀ i, i < n → ∀ k, k < L i → -2147483648 ≤ Z i k ∧ Z i k ≤ 2147483647 := by
  obtain ⟨fuel, hf⟩ := h
  rcases Deep.open_int_rows Try.underlying23 Try.underlying36 Try.underlying21 (by kernel_rfl) (by kernel_rfl) hf with ⟨hcs, _⟩ | ⟨x, l, c', A, L, C, Z, hcs, _, hl, hm, _, hrow⟩
  · simp [Value.cells] at hcs
    obtain ⟨rfl, rfl, rfl⟩ := hcs
    exact ⟨fun _ => none, fun _ => 0, fun _ => 0, fun _ _ => 0, fun i hi => absurd hi (Nat.not_lt_zero _), by omega, fun _ => ⟨rfl, rfl⟩, (fun i hi => absurd hi (Nat.not_lt_zero _)), (fun i hi => absurd hi (Nat.not_lt_zero _)), fun i hi => absurd hi (Nat.not_lt_zero _)⟩
  · simp [Value.cells] at hcs
    obtain ⟨rfl, rfl, rfl⟩ := hcs
    unfold maxLen at hm
    refine ⟨A, L, C, fun r k => (Z r).getD k 0, fun i hi => ?_, by omega, (fun h => by cases h), fun i hi => ?_, fun i hi hA => ?_, fun i hi k hk => ?_⟩
    · obtain ⟨hc, h1, h2, h3, h4, h5, h6⟩ := hrow i (by omega)
      obtain ⟨b, off, spot⟩ := x
      have hspot : spot = none := by simpa [Addr.add] using World.cell?_spot (hrow 0 (by omega)).1
      subst hspot
      refine ⟨⟨b, off, rfl, Nat.zero_le _, by rwa [add_plain] at hc⟩, fun k hk => ?_⟩
      cases hA : A i with
      | none => have := h5 hA; omega
      | some a' =>
        obtain ⟨_, h7⟩ := h6 a' hA
        obtain ⟨b', off', spot'⟩ := a'
        have hspot' : spot' = none := by simpa [Addr.add] using World.cell?_spot (h7 0 (by omega))
        subst hspot'
        refine ⟨b', off', rfl, Nat.zero_le _, ?_⟩
        have := h7 k (by omega)
        rwa [add_plain] at this
    · obtain ⟨hc, h1, h2, _⟩ := hrow i (by omega)
      unfold maxLen at h2
      omega
    · obtain ⟨hc, h1, h2, h3, h4, h5, h6⟩ := hrow i (by omega)
      have := h5 hA
      omega
    · obtain ⟨hc, h1, h2, h3, h4, h5, h6⟩ := hrow i (by omega)
      refine bounds_i32 (h4 _ ?_)
      show (Z i).getD k 0 ∈ Z i
      rw [List.getD_eq_getElem?_getD, List.getElem?_eq_getElem (by omega)]
      exact List.getElem_mem _

set_option maxRecDepth 100000 in
theorem lifted (os : Os) (started : os.Started) (H : Type) (enc : TypeId × Value → H) :
    ReturnsInHanded {} Try.checked os 3 .any (Rows.fnComponentsAreMutualReachabilityClassesSpec.pre6 enc Try.prog Try.f3 Rows.fnComponentsAreMutualReachabilityClassesRow.domain false) (Rows.fnComponentsAreMutualReachabilityClassesSpec.post enc Try.prog Try.f3 false true false false) := by
  refine returnsInHanded_of_change (C := Try.checked) own started (by kernel_rfl) Try.func3
    (ChangeSpec.witness6 (enc := enc) (C := Try.checked) false ⟨#[], #[.slice none 0 0, .slice none 0 0], []⟩ 8 (by kernel_rfl) (by kernel_rfl) (by kernel_rfl) (by kernel_rfl)) ?_
  intro W base args ds gs before hval0 hW hcnd _
  have hval : ∀ (j : Nat) t v, Try.f3.params[j]? = some t → args[j]? = some v → Value.okWide Try.prog W .any base t v := hval0
  have hW' := hW
  obtain ⟨p, q, hA0, hV, rfl, hfz, hnd⟩ := hW
  have hA : DataW.TrodAll enc Try.prog W 0 (fun _ => true) true Try.f3.params.toList args.toList ds p := hA0
  rw [Try.params3] at hA hval
  obtain ⟨v0, vs0, d0, ds0, p0, q0, hargs, rfl, rfl, h0, r0⟩ := trodAll_cons hA
  obtain ⟨v1, vs1, d1, ds1, p1, q1, rfl, rfl, rfl, h1, r1⟩ := trodAll_cons r0
  obtain ⟨rfl, rfl, rfl⟩ := trodAll_nil r1
  obtain rfl : args = #[v0, v1] := by cases args; simp_all
  obtain ⟨rfl, rfl⟩ := trodVars_none hV
  obtain ⟨a0, n0, c0, rfl⟩ := okWide_slice Try.underlying22 (hval 0 22 v0 rfl rfl)
  have lt0 : ∀ x ∈ p0, x.block < W.heap.size := by obtain ⟨m, hm⟩ := h0; exact DataW.trod_lt m _ _ _ hm
  obtain ⟨z, s0, m0, e0⟩ := open_sl h0
  obtain ⟨a1, n1, c1, rfl⟩ := okWide_slice Try.underlying23 (hval 1 23 v1 rfl rfl)
  have lt1 : ∀ x ∈ p1, x.block < W.heap.size := by obtain ⟨m, hm⟩ := h1; exact DataW.trod_lt m _ _ _ hm
  obtain ⟨A, L, C, Z, s1, m1, e1, hL, hN, hZ⟩ := open_mat h1
  clear hA0 hval0
  refine (top_any a0 a1 n0 n1 c0 c1 A L C Z z W m0 m1 e0 e1 s0 s1 hL hN hZ).mono fun e W' ⟨he, bel⟩ => ?_
  subst he
  exact ⟨_, rfl, _, _, _, [], _, [], hW', trodAll_mk1 (shut_bool Try.underlying4 _), (trodAll_cons_mk (Below.trod laidOut (by kernel_rfl) (of_decide_eq_true (by kernel_rfl)) h0 bel lt0) (trodAll_cons_mk (Below.trod laidOut (by kernel_rfl) (of_decide_eq_true (by kernel_rfl)) h1 bel lt1) trodAll_mk0)), rfl, bel.frame _, fun h => by cases h⟩

theorem over : Rows.fnComponentsAreMutualReachabilityClassesRow.holds Try.pinned (OpenSpec.ofChange Rows.fnComponentsAreMutualReachabilityClassesSpec) :=
  OpenClaim.holds_of_wide 3 Try.f3 rfl rfl rfl rfl rfl rfl rfl ⟨rfl, rfl, rfl, rfl, rfl⟩ rfl rfl rfl rfl rfl (by kernel_rfl) Try.func3 (by kernel_rfl)
    (of_decide_eq_true (by kernel_rfl)) (by unfold Func.isWrapper; first | (rw [if_pos (by decide +kernel)]; kernel_rfl) | (rw [if_neg (by decide +kernel)]; exact ⟨rfl, rfl⟩))
    (fun os started H enc _ => lifted os started H enc)

/-- the statement -/
theorem proved : Rows.FnComponentsAreMutualReachabilityClassesSaid := over
#print axioms proved
end Go.Proofs.Qxb6605494a.fnComponentsAreMutualReachabilityClasses
