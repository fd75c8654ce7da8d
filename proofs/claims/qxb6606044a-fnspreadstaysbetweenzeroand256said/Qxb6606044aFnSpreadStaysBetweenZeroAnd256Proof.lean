/-
  THE SHELL OF A PROOF OF 'Rows.FnSpreadStaysBetweenZeroAnd256Said', WRITTEN BY PROGRAM (proof-skeleton.mjs, third state) off the guide's own print for that function.
  The hole (the walk) is filled; all else is the guide's own way at this function's number and types.
-/
import Derived.Test.Qxb6606044aRows
import Derived.WalkKit
import Derived.ProofKit
import Derived.OpenShut
import Derived.ShutString
import Derived.ChangeOld
import Derived.Below
import Derived.Test.Qxb6606044aWalkD
namespace Go.Proofs.Qxb6606044a.fnSpreadStaysBetweenZeroAnd256
open Go.ChangeShapes Go.WideShapes Go.ChangeAt Go.RowKit
open Go.ChangeMaps (open_string shut_string)
set_option linter.unusedVariables false

theorem own : ownKnob Try.prog.godebug = none := by kernel_rfl
theorem laidOut : laidOutB Try.prog = true := by kernel_rfl

/-- WHAT THE WALK IS TOLD OF A SLICE OF INTEGERS THAT CAME IN: it is nil; or it leads to a row of 'cap' cells, the numbers 'zs' (the first 'len' are its elements, the rest its spare room), each fitting its kind. -/
def IsRow (k : IntKind) (w : World) (a : Option Addr) (len cap : Nat) (zs : List Int) : Prop :=
  (a = none ∧ len = 0 ∧ cap = 0 ∧ zs = []) ∨
  ∃ x, a = some x ∧ len ≤ cap ∧ cap ≤ maxLen ∧ zs.length = cap ∧ (∀ i, i < zs.length → w.cell? (x.add i) = some (.int k (zs.getD i 0))) ∧ ∀ n ∈ zs, (Lit.int k n).wf = true

theorem byte_range {zs : List Int} (h : ∀ n ∈ zs, (Lit.int .u8 n).wf = true) (i : Nat) (hi : i < zs.length) : 0 ≤ zs.getD i 0 ∧ zs.getD i 0 < 256 := by
  have hm : zs.getD i 0 ∈ zs := by
    rw [List.getD_eq_getElem?_getD, List.getElem?_eq_getElem hi]; exact List.getElem_mem hi
  have := h _ hm
  generalize zs.getD i 0 = n at *
  simp [Lit.wf, IntKind.max, IntKind.min, IntKind.bits, IntKind.signed] at this
  omega

/-- a constant row sampled whole -/
theorem ans_whole (z : Nat → Int) (len : Nat) (s : Int) (hlen : len ≤ 1048576) (h2 : 2 ≤ len) (hs : (len : Int) ≤ s) (hall : ∀ i, i < len → z i = z 0) : ans z len s = 4643211215818981376 := by
  have hq : ((len : Int) / s).toNat ≤ 1 := by
    have : (len : Int) / s ≤ 1 := by
      apply Int.le_of_lt_add_one
      apply Int.ediv_lt_of_lt_mul (by omega)
      omega
    omega
  have hst : strideOf len s = 1 := by unfold strideOf Pl.strd; rw [if_pos hq]
  have hn : Pl.nOf len 1 = len := by unfold Pl.nOf; rw [Nat.div_one]; omega
  unfold ans spv
  rw [hst, hn, if_neg (by omega)]
  have hp : Pl.prs (smp z 1) len = Pl.tri len := by
    rw [Pl.prs_congr (smp z 1) (fun _ => (z 0).toNat) len (fun j hj => by unfold smp; rw [Nat.mul_one, hall j hj]), Pl.prs_const]
  have hb := Pl.tri_bound len (by omega)
  exact (Fl.ratio_facts _ _ (Pl.prs_le _ _) (Pl.two_le_tri _ h2) (by omega)).2.2.2 hp

/-! ### STEP 1: THE WALK: the Go text returns true, AND WRITES NOTHING THAT WAS THERE: 'Below w.heap.size w w'' (Derived/Below.lean: '.refl', '.alloc', '.drew', '.setCell' at a new block, '.trans'). Open each 'IsRow' by 'rcases' AHEAD of 'go_enter'; part every test ahead of the walk. -/
theorem walk (a0 : Option Addr) (len0 cap0 : Nat) (z0 : List Int) (a1 : Int) (w : World) (w0 : IsRow .u8 w a0 len0 cap0 z0) (w1 : (Lit.int .i64 a1).wf = true) :
    Calls Try.prog 5 #[.slice a0 len0 cap0, .int .i64 a1] w fun e w' => e = .returned (.bool true) ∧ Below w.heap.size w w' := by
  by_cases hs : 1 ≤ a1
  · rcases w0 with ⟨rfl, rfl, rfl, rfl⟩ | ⟨x, rfl, hl, hm, hz, hcell, hwz⟩
    · have o1 : (FloatKind.f64.format.order 4607182418800017408 0 == some .gt || FloatKind.f64.format.order 4607182418800017408 0 == some .eq) = true := Fl.okR_one.1
      have o2 : (FloatKind.f64.format.order 4607182418800017408 4643211215818981376 == some .lt || FloatKind.f64.format.order 4607182418800017408 4643211215818981376 == some .eq) = true := Fl.okR_one.2.1
      have o3 : (FloatKind.f64.format.order 4607182418800017408 4607182418800017408 == some .eq) = true := Fl.okR_one.2.2
      go_enter Try.func5, Try.ntmps5
      go_wp2_with (first
        | (go_at_call 7; refine (clone_nil _).mono ?_; rintro e w' ⟨rfl, rfl⟩)
        | (go_at_call 13; refine (spread_nil _ _ hs).mono ?_; rintro e w2 ⟨rfl, hb2⟩)
        | go_in)
      go_ret
      exact ⟨rfl, hb2⟩
    · by_cases hlen : len0 ≤ 1048576
      · have hzb : ∀ i, i < len0 → 0 ≤ z0.getD i 0 ∧ z0.getD i 0 < 256 := fun i hi => byte_range hwz i (by omega)
        have hc : ∀ i, i < len0 → w.cell? (x.add i) = some (.int .u8 (z0.getD i 0)) := fun i hi => hcell i (by omega)
        obtain ⟨R, hR⟩ : ∃ R, R = ans (fun i => z0.getD i 0) len0 a1 := ⟨_, rfl⟩
        have hok := ans_ok (fun i => z0.getD i 0) len0 a1 hlen
        rw [← hR] at hok
        have o1 : (FloatKind.f64.format.order R 0 == some .gt || FloatKind.f64.format.order R 0 == some .eq) = true := hok.1
        have o2 : (FloatKind.f64.format.order R 4643211215818981376 == some .lt || FloatKind.f64.format.order R 4643211215818981376 == some .eq) = true := hok.2.1
        have HR : Hid (R = ans (fun i => z0.getD i 0) len0 a1) := hR
        clear hR hcell hwz hok
        go_enter Try.func5, Try.ntmps5
        go_wp2_with (first
          | (go_at_call 7; refine (clone_some x len0 cap0 (fun i => z0.getD i 0) _ hlen hc).mono ?_; rintro e w1 ⟨rfl, hrow, hb1⟩)
          | (go_at_call 11; go_in)
          | (go_at_call 8; go_in))
        have c1 : ∀ i, i < len0 → w1.cell? ⟨w.heap.size, 0 + i, none⟩ = some (.int .u8 (z0.getD i 0)) := fun i hi => by rw [Nat.zero_add]; exact hrow.cell hi
        refine (spread_any w.heap.size 0 len0 len0 a1 (fun i => z0.getD i 0) w1 hlen hs c1 hzb).mono ?_
        rintro e w2 ⟨rfl, hb2⟩
        rw [← HR.out]
        have hb : Below w.heap.size w w2 := hb1.trans (hb2.mono hb1.size)
        have c2 : ∀ i, i < len0 → w2.cell? ⟨w.heap.size, 0 + i, none⟩ = some (.int .u8 (z0.getD i 0)) := fun i hi => by rw [hb2.cell hrow.lt]; exact c1 i hi
        have hsz : w.heap.size ≤ w2.heap.size := Nat.le_trans hb1.size hb2.size
        clear c1 hb1 hb2 hrow hc hzb
        by_cases hl2 : len0 < 2
        · have hR1 : R = 4607182418800017408 := by
            rw [HR.out]; unfold ans spv
            have hn := nOf_le len0 (strideOf len0 a1) (Pl.strd_pos _)
            rw [if_pos (by omega)]
          subst hR1
          have o3 : (FloatKind.f64.format.order 4607182418800017408 4607182418800017408 == some .eq) = true := Fl.okR_one.2.2
          go_wp2
          go_ret
          exact ⟨rfl, hb⟩
        · by_cases hsl : (len0 : Int) ≤ a1
          · go_wp2_with fail
            refine (allEqual_any w.heap.size 0 len0 len0 (fun i => z0.getD i 0) w2 hlen (by omega) c2).mono ?_
            rintro e w3 ⟨r, rfl, hall, hb3⟩
            cases r with
            | false =>
              clear hall
              go_wp2
              go_ret
              exact ⟨rfl, hb.trans (hb3.mono hsz)⟩
            | true =>
              have hR1 : R = 4643211215818981376 := by
                rw [HR.out]
                exact ans_whole _ _ _ hlen (by omega) hsl (hall rfl)
              subst hR1
              have o3 : (FloatKind.f64.format.order 4643211215818981376 4643211215818981376 == some .eq) = true := Fl.okR_256.2.2
              clear hall
              go_wp2
              go_ret
              exact ⟨rfl, hb.trans (hb3.mono hsz)⟩
          · have hd : decide ((len0 : Int) ≤ a1) = false := by simpa using hsl
            go_wp2
            go_ret
            exact ⟨rfl, hb⟩
      · have hgt : (1048576 : Int) < (len0 : Int) := by omega
        unfold maxLen at hm
        go_enter Try.func5, Try.ntmps5
        go_wp2
        go_ret
        exact ⟨rfl, Below.refl _ _⟩
  · have hs' : a1 < 1 := by omega
    have hm0 : len0 ≤ 9223372036854775807 := by
      rcases w0 with ⟨rfl, rfl, rfl, rfl⟩ | ⟨x, rfl, hl, hm, hz, hcell, hwz⟩
      · omega
      · unfold maxLen at hm; omega
    clear w0
    by_cases hlen : len0 ≤ 1048576
    · go_enter Try.func5, Try.ntmps5
      go_wp2
      go_ret
      exact ⟨rfl, Below.refl _ _⟩
    · have hgt : (1048576 : Int) < (len0 : Int) := by omega
      go_enter Try.func5, Try.ntmps5
      go_wp2
      go_ret
      exact ⟨rfl, Below.refl _ _⟩

/-! ### THE ROW's STEP: WRITTEN OUT: LEAVE IT -/
set_option maxRecDepth 100000 in
theorem lifted (os : Os) (started : os.Started) (H : Type) (enc : TypeId × Value → H) :
    ReturnsInHanded {} Try.checked os 5 .any (Rows.fnSpreadStaysBetweenZeroAnd256Spec.pre6 enc Try.prog Try.f5 Rows.fnSpreadStaysBetweenZeroAnd256Row.domain false) (Rows.fnSpreadStaysBetweenZeroAnd256Spec.post enc Try.prog Try.f5 false true false false) := by
  refine returnsInHanded_of_change (C := Try.checked) own started (by kernel_rfl) Try.func5
    (ChangeSpec.witness6 (enc := enc) (C := Try.checked) false ⟨#[], #[.slice none 0 0, .int .i64 0], []⟩ 8 (by kernel_rfl) (by kernel_rfl) (by kernel_rfl) (by kernel_rfl)) ?_
  intro W base args ds gs before hval0 hW hcnd _
  have hval : ∀ (j : Nat) t v, Try.f5.params[j]? = some t → args[j]? = some v → Value.okWide Try.prog W .any base t v := hval0
  have hW' := hW
  obtain ⟨p, q, hA0, hV, rfl, hfz, hnd⟩ := hW
  have hA : DataW.TrodAll enc Try.prog W 0 (fun _ => true) true Try.f5.params.toList args.toList ds p := hA0
  rw [Try.params5] at hA hval
  obtain ⟨v0, vs0, d0, ds0, p0, q0, hargs, rfl, rfl, h0, r0⟩ := trodAll_cons hA
  obtain ⟨v1, vs1, d1, ds1, p1, q1, rfl, rfl, rfl, h1, r1⟩ := trodAll_cons r0
  obtain ⟨rfl, rfl, rfl⟩ := trodAll_nil r1
  obtain rfl : args = #[v0, v1] := by cases args; simp_all
  obtain ⟨rfl, rfl⟩ := trodVars_none hV
  obtain ⟨a0, len0, cap0, rfl⟩ := okWide_slice Try.underlying22 (hval 0 22 v0 rfl rfl)
  have k0 := h0
  have lt0 : ∀ x ∈ p0, x.block < W.heap.size := by obtain ⟨m, hm⟩ := k0; exact DataW.trod_lt m _ _ _ hm
  obtain ⟨z0, w0⟩ : ∃ zs, IsRow .u8 W a0 len0 cap0 zs := by
    obtain ⟨fuel, hf⟩ := h0
    rcases open_ints Try.underlying22 Try.underlying5 (by kernel_rfl) hf with ⟨hcs, _⟩ | ⟨x, l, c, zs, hcs, _, hl, hm, hz, _, hcell, hwz⟩
    · simp [Value.cells] at hcs
      obtain ⟨rfl, rfl, rfl⟩ := hcs
      exact ⟨[], .inl ⟨rfl, rfl, rfl, rfl⟩⟩
    · simp [Value.cells] at hcs
      obtain ⟨rfl, rfl, rfl⟩ := hcs
      exact ⟨zs, .inr ⟨_, rfl, hl, hm, by simpa using hz, hcell, hwz⟩⟩
  obtain ⟨a1, rfl, rfl, rfl, w1⟩ := open_int Try.underlying3 (hval 1 3 v1 rfl rfl) h1
  clear hA0 hval0
  refine (walk a0 len0 cap0 z0 a1 W w0 w1).mono fun e W' ⟨he, bel⟩ => ?_
  subst he
  exact ⟨_, rfl, _, _, _, [], _, [], hW', trodAll_mk1 (shut_bool Try.underlying4 _), (trodAll_cons_mk (Below.trod laidOut (by kernel_rfl) (of_decide_eq_true (by kernel_rfl)) k0 bel lt0) (trodAll_cons_mk (shut_int Try.underlying3 w1) trodAll_mk0)), rfl, bel.frame _, fun h => by cases h⟩

theorem over : Rows.fnSpreadStaysBetweenZeroAnd256Row.holds Try.pinned (OpenSpec.ofChange Rows.fnSpreadStaysBetweenZeroAnd256Spec) :=
  OpenClaim.holds_of_wide 5 Try.f5 rfl rfl rfl rfl rfl rfl rfl ⟨rfl, rfl, rfl, rfl, rfl⟩ rfl rfl rfl rfl rfl (by kernel_rfl) Try.func5 (by kernel_rfl)
    (of_decide_eq_true (by kernel_rfl)) (by unfold Func.isWrapper; first | (rw [if_pos (by decide +kernel)]; kernel_rfl) | (rw [if_neg (by decide +kernel)]; exact ⟨rfl, rfl⟩))
    (fun os started H enc _ => lifted os started H enc)

/-- ████ THE STATEMENT ████ -/
theorem proved : Rows.FnSpreadStaysBetweenZeroAnd256Said := over
#print axioms proved
end Go.Proofs.Qxb6606044a.fnSpreadStaysBetweenZeroAnd256
