import Derived.Test.Qxb6606063aWalkB
namespace Go.Proofs.Qxb6606063a
open Go.RowKit
set_option linter.unusedVariables false
theorem Try.info32 : (Try.prog.info? 32).map (fun i => (i.zero, i.size, i.bytes)) = some (some (.agg #[.string ⟨#[]⟩, .string ⟨#[]⟩]), 2, 32) := by kernel_rfl

set_option maxHeartbeats 1000000 in
theorem rule_any (a1 a2 a3 a4 a5 : Option Addr) (n1 n2 n3 n4 n5 c1 c2 c3 c4 c5 : Nat) (w : World) :
    Calls Try.prog 9 #[.slice a1 n1 c1, .slice a2 n2 c2, .slice a3 n3 c3, .slice a4 n4 c4, .slice a5 n5 c5] w fun e w' =>
      e = .returned (.agg #[.slice a1 n1 c1, .slice a2 n2 c2, .slice a3 n3 c3, .slice a4 n4 c4, .slice a5 n5 c5]) ∧ Below w.heap.size w w' := by
  go_enter Try.func9, Try.ntmps9
  go_wp2
  exact bodyPost_ret (v := .agg #[.slice a1 n1 c1, .slice a2 n2 c2, .slice a3 n3 c3, .slice a4 n4 c4, .slice a5 n5 c5]) (by simp [results, Try.results9, go_sem]) rfl ⟨rfl, (Below.refl _ _).alloc (Nat.le_refl _) _⟩

/-- the errors' cells, two an error -/
def cellsOf : List (ByteArray × ByteArray) → List Value
  | [] => []
  | p :: r => .string p.1 :: .string p.2 :: cellsOf r

theorem cellsOf_append (L M : List (ByteArray × ByteArray)) : cellsOf (L ++ M) = cellsOf L ++ cellsOf M := by
  induction L with
  | nil => rfl
  | cons p r ih => simp [cellsOf, ih]

/-- the errors gathered so far: v owns them; base: the heap's size when the gathering began -/
structure Acc (W1 wc : World) (v : Value) (L : List (ByteArray × ByteArray)) (FS : List ByteArray) : Prop where
  own : wc.ownsRow W1.heap.size 32 2 v L.length (cellsOf L)
  flds : L.map Prod.fst = FS
  det : ∀ p ∈ L, p.2.size ≠ 0
  bel : Below W1.heap.size W1 wc

theorem Acc.start (W1 : World) : Acc W1 W1 (.slice none 0 0) [] [] :=
  ⟨World.ownsRow_nil _ _ _ _, rfl, (fun p hp => by cases hp), Below.refl _ _⟩

theorem Acc.push {W1 wc w' : World} {v v' : Value} {L : List (ByteArray × ByteArray)} {FS : List ByteArray} {F D : ByteArray} {o : Obj} (h : Acc W1 wc v L FS)
    (ho : w'.ownsRow W1.heap.size 32 2 v' (L.length + 1) (cellsOf L ++ [.string F, .string D])) (hg : (wc.alloc o).grownBy w' v.ownBlock) (hD : D.size ≠ 0) :
    Acc W1 w' v' (L ++ [(F, D)]) (FS ++ [F]) := by
  refine ⟨?_, by rw [List.map_append, h.flds]; rfl, ?_, ?_⟩
  · rw [cellsOf_append, List.length_append]; exact ho
  · intro p hp
    rcases List.mem_append.1 hp with hp | hp
    · exact h.det p hp
    · rw [List.mem_singleton.1 hp]; exact hD
  · have hsz := h.bel.size
    refine (h.bel.alloc hsz o).grown hg (by simp; omega) ?_
    intro k hk
    exact (h.own.lt k hk).1

theorem two_one (a b : ByteArray) : ∀ u ∈ [Value.string a, Value.string b], u.oneCell' = true := by
  intro u hu
  simp at hu
  rcases hu with rfl | rfl <;> rfl

/-- one more error appended: the kit's law at this shape -/
theorem wpList_push {ops : Array Oper} {rest : List Oper} {o : Oper} {a : Act} {Q : Exit → Act → World → Prop} {W1 wc : World} {v : Value} {L : List (ByteArray × ByteArray)} {FS : List ByteArray} {F D : ByteArray}
    (A : Acc W1 wc v L FS) (hl : L.length ≤ 2) (hD : D.size ≠ 0) (hgd : o.guard = none) (s x : Operand) (ho : o.op = .call { callee := .builtin .append, args := #[s, x], argTypes := #[25, 25] })
    (hs : a.eval s = v) (hx : a.eval x = .slice (some ⟨wc.heap.size, 0, none⟩) 1 1)
    (h : ∀ v' w', Acc W1 w' v' (L ++ [(F, D)]) (FS ++ [F]) → wpList Try.prog ops Q rest (a.put o.dst v') w') :
    wpList Try.prog ops Q (o :: rest) a (wc.alloc (.cells #[.string F, .string D] 32)) := by
  obtain ⟨i0, hi, hz0, hz1, hz2⟩ := info_parts Try.info32
  refine wpList_append_own _ hgd s x 25 ho W1.heap.size 32 i0 _ 2 32 Try.underlying25 hi hz0 hz1 hz2 rfl (by decide) v L.length (cellsOf L) hs (A.own.alloc _) ⟨wc.heap.size, 0, none⟩ 1 1 [.string F, .string D] hx rfl (cell_two_new _ _ _ _) (two_one _ _) (by unfold maxLen; omega) (by omega) (by have := A.bel.size; simp; omega) ?_
  intro v' w' h1 h2 _
  exact h v' w' (A.push h1 h2 hD)

def bV : ByteArray := ⟨#[46, 118, 101, 114, 98, 115]⟩
def bP : ByteArray := ⟨#[46, 110, 111, 110, 82, 101, 115, 111, 117, 114, 99, 101, 85, 82, 76, 115]⟩
def bG : ByteArray := ⟨#[46, 97, 112, 105, 71, 114, 111, 117, 112, 115]⟩
def bR : ByteArray := ⟨#[46, 114, 101, 115, 111, 117, 114, 99, 101, 115]⟩

def f1 (at0 : ByteArray) (n1 : Nat) : List ByteArray := if n1 = 0 then [at0 ++ bV] else []
def f2 (at0 : ByteArray) (n2 n3 n4 n5 : Nat) (cw : Bool) : List ByteArray :=
  if n5 = 0 then (if n2 = 0 then [at0 ++ bG] else []) ++ (if n3 = 0 then [at0 ++ bR] else [])
  else if cw = false then [at0 ++ bP] else if n2 + n3 + n4 = 0 then [] else [at0]

/-- what checkRule leaves: behind a name, so that the walk does not look into it -/
def ChkPost (w : World) (FS : List ByteArray) (e : Ending) (w' : World) : Prop := ∃ v L W1, e = .returned v ∧ Below w.heap.size w W1 ∧ Acc W1 w' v L FS

set_option maxRecDepth 100000 in
set_option maxHeartbeats 2000000 in
theorem check_any (at0 : ByteArray) (a1 a2 a3 a4 a5 : Option Addr) (n1 n2 n3 n4 n5 c1 c2 c3 c4 c5 : Nat) (cw : Bool) (w : World) (hs0 : at0.size ≤ 1048576)
    (m1 : n1 ≤ 1048576) (m2 : n2 ≤ 1048576) (m3 : n3 ≤ 1048576) (m4 : n4 ≤ 1048576) (m5 : n5 ≤ 1048576) :
    Calls Try.prog 16 #[.string at0, .agg #[.slice a1 n1 c1, .slice a2 n2 c2, .slice a3 n3 c3, .slice a4 n4 c4, .slice a5 n5 c5], .bool cw] w
      (ChkPost w (f1 at0 n1 ++ f2 at0 n2 n3 n4 n5 cw)) := by
  obtain ⟨i0, hi, hz0, hz1, hz2⟩ := info_parts Try.info32
  go_enter Try.func16, Try.ntmps16
  go_upto_region 1 with (fail)
  go_cut [7] from 8 (fun v wc => v = .slice none 0 0 ∧ Below w.heap.size w wc ∧ w.heap.size < wc.heap.size ∧ wc.cell? ⟨w.heap.size, 0, none⟩ = some (.slice a1 n1 c1) ∧ wc.cell? ⟨w.heap.size, 1, none⟩ = some (.slice a2 n2 c2) ∧
    wc.cell? ⟨w.heap.size, 2, none⟩ = some (.slice a3 n3 c3) ∧ wc.cell? ⟨w.heap.size, 3, none⟩ = some (.slice a4 n4 c4) ∧ wc.cell? ⟨w.heap.size, 4, none⟩ = some (.slice a5 n5 c5))
  case first =>
    go_wp2
    go_meet
    case rel => exact ⟨rfl, (Below.refl _ _).alloc (Nat.le_refl _) _, by simp, by simp, by simp, by simp, by simp, by simp⟩
  case rest =>
    obtain ⟨rfl, hbel, hsz, b1, b2, b3, b4, b5⟩ := hcut
    obtain ⟨W1, hW1⟩ : ∃ W, W = wc := ⟨_, rfl⟩
    subst hW1
    go_upto_if 11 with (fail)
    go_cut [7] from 8 (fun v wc => ∃ L, L.length ≤ 1 ∧ Acc W1 wc v L (f1 at0 n1))
    case first =>
      have A0 := Acc.start W1
      by_cases h1 : n1 = 0
      · subst h1
        go_wp2_with (at_builtin; refine wpList_push A0 (by decide) (by decide +kernel) rfl (.tmp 12) (.tmp 16) rfl rfl rfl ?_; intro v' w1 A1)
        go_meet
        case rel => exact ⟨_, by simp, A1⟩
      · have h1' : ((n1 : Int) == 0) = false := by simpa using h1
        have e1 : f1 at0 n1 = [] := by unfold f1; rw [if_neg h1]
        go_wp2_with fail
        go_meet
        case rel => exact ⟨[], by simp, by rw [e1]; exact A0⟩
    case rest =>
      obtain ⟨L, hL, A⟩ := hcut
      rename_i v7
      have d1 : wc.cell? ⟨w.heap.size, 0, none⟩ = some (.slice a1 n1 c1) := by rw [A.bel.cell hsz]; exact b1
      have d2 : wc.cell? ⟨w.heap.size, 1, none⟩ = some (.slice a2 n2 c2) := by rw [A.bel.cell hsz]; exact b2
      have d3 : wc.cell? ⟨w.heap.size, 2, none⟩ = some (.slice a3 n3 c3) := by rw [A.bel.cell hsz]; exact b3
      have d4 : wc.cell? ⟨w.heap.size, 3, none⟩ = some (.slice a4 n4 c4) := by rw [A.bel.cell hsz]; exact b4
      have d5 : wc.cell? ⟨w.heap.size, 4, none⟩ = some (.slice a5 n5 c5) := by rw [A.bel.cell hsz]; exact b5
      clear b1 b2 b4 b5
      have B3 : Hid (W1.cell? ⟨w.heap.size, 2, none⟩ = some (.slice a3 n3 c3)) := b3
      clear b3
      by_cases h5 : n5 = 0
      · subst h5
        by_cases h2 : n2 = 0
        · subst h2
          by_cases h3 : n3 = 0
          · subst h3
            go_wp2_with (first
              | (at_builtin; refine wpList_push A (by omega) (by decide +kernel) rfl (.tmp 22) (.tmp 26) rfl rfl rfl ?_; intro v' w1 A1; have d3' : w1.cell? ⟨w.heap.size, 2, none⟩ = some (.slice a3 0 c3) := (A1.bel.cell hsz).trans B3.out)
              | (at_builtin; refine wpList_push A1 (by simp; omega) (by decide +kernel) rfl (.tmp 32) (.tmp 36) rfl rfl rfl ?_; intro v'' w2 A2))
            go_ret
            unfold ChkPost
            exact ⟨_, _, W1, rfl, hbel, by rw [show f2 at0 0 0 n4 0 cw = [at0 ++ bG] ++ [at0 ++ bR] from rfl, ← List.append_assoc]; exact A2⟩
          · have h3' : ((n3 : Int) == 0) = false := by simpa using h3
            have e2 : f2 at0 0 n3 n4 0 cw = [at0 ++ bG] := by unfold f2; rw [if_pos rfl, if_pos rfl, if_neg h3]; rfl
            have E2 : Hid (f2 at0 0 n3 n4 0 cw = [at0 ++ bG]) := e2
            clear e2
            go_wp2_with (at_builtin; refine wpList_push A (by omega) (by decide +kernel) rfl (.tmp 22) (.tmp 26) rfl rfl rfl ?_; intro v' w1 A1; have d3' : w1.cell? ⟨w.heap.size, 2, none⟩ = some (.slice a3 n3 c3) := (A1.bel.cell hsz).trans B3.out)
            go_ret
            unfold ChkPost
            exact ⟨_, _, W1, rfl, hbel, by rw [E2.out]; exact A1⟩
        · have h2' : ((n2 : Int) == 0) = false := by simpa using h2
          by_cases h3 : n3 = 0
          · subst h3
            have e2 : f2 at0 n2 0 n4 0 cw = [at0 ++ bR] := by unfold f2; rw [if_pos rfl, if_neg h2, if_pos rfl]; rfl
            have E2 : Hid (f2 at0 n2 0 n4 0 cw = [at0 ++ bR]) := e2
            clear e2
            go_wp2_with (at_builtin; refine wpList_push A (by omega) (by decide +kernel) rfl (.tmp 32) (.tmp 36) rfl rfl rfl ?_; intro v' w1 A1)
            go_ret
            unfold ChkPost
            exact ⟨_, _, W1, rfl, hbel, by rw [E2.out]; exact A1⟩
          · have h3' : ((n3 : Int) == 0) = false := by simpa using h3
            have e2 : f2 at0 n2 n3 n4 0 cw = [] := by unfold f2; rw [if_pos rfl, if_neg h2, if_neg h3]; rfl
            have E2 : Hid (f2 at0 n2 n3 n4 0 cw = []) := e2
            clear e2
            go_wp2_with fail
            go_ret
            unfold ChkPost
            exact ⟨_, _, W1, rfl, hbel, by rw [E2.out, List.append_nil]; exact A⟩
      · have h5' : (0 : Int) < (n5 : Int) := by omega
        cases cw with
        | false =>
          have e2 : f2 at0 n2 n3 n4 n5 false = [at0 ++ bP] := by unfold f2; rw [if_neg h5, if_pos rfl]
          have E2 : Hid (f2 at0 n2 n3 n4 n5 false = [at0 ++ bP]) := e2
          clear e2
          go_wp2_with (at_builtin; refine wpList_push A (by omega) (by decide +kernel) rfl (.tmp 47) (.tmp 51) rfl rfl rfl ?_; intro v' w1 A1)
          go_ret
          unfold ChkPost
          exact ⟨_, _, W1, rfl, hbel, by rw [E2.out]; exact A1⟩
        | true =>
          by_cases hs4 : n2 + n3 + n4 = 0
          · obtain rfl : n2 = 0 := by omega
            obtain rfl : n3 = 0 := by omega
            obtain rfl : n4 = 0 := by omega
            have e2 : f2 at0 0 0 0 n5 true = [] := by unfold f2; rw [if_neg h5, if_neg (by decide), if_pos rfl]
            have E2 : Hid (f2 at0 0 0 0 n5 true = []) := e2
            clear e2
            go_wp2_with fail
            go_ret
            unfold ChkPost
            exact ⟨_, _, W1, rfl, hbel, by rw [E2.out, List.append_nil]; exact A⟩
          · have hs4' : (0 : Int) < (n2 : Int) + (n3 : Int) + (n4 : Int) := by omega
            have e2 : f2 at0 n2 n3 n4 n5 true = [at0] := by unfold f2; rw [if_neg h5, if_neg (by decide), if_neg hs4]
            have E2 : Hid (f2 at0 n2 n3 n4 n5 true = [at0]) := e2
            clear e2
            go_wp2_with (at_builtin; refine wpList_push A (by omega) (by decide +kernel) rfl (.tmp 72) (.tmp 75) rfl rfl rfl ?_; intro v' w1 A1)
            go_ret
            unfold ChkPost
            exact ⟨_, _, W1, rfl, hbel, by rw [E2.out]; exact A1⟩
end Go.Proofs.Qxb6606063a
