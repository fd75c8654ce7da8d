import Derived.Test.Qxb6605494aWalkA
namespace Go.Proofs.Qxb6605494a
open Go.RowKit
set_option linter.unusedVariables false

/-! ### insertion sort, plain -/
def SUp (z : Nat → Int) (o : Nat → Nat) (i : Nat) : Prop := ∀ a b, a < b → b < i → z (o a) ≤ z (o b)
def SIn (z : Nat → Int) (o : Nat → Nat) (i j : Nat) : Prop := (∀ a b, a < b → b ≤ i → a ≠ j → b ≠ j → z (o a) ≤ z (o b)) ∧ (∀ b, j < b → b ≤ i → z (o j) ≤ z (o b))
def sw (o : Nat → Nat) (j : Nat) : Nat → Nat := fun x => if x = j then o (j + 1) else if x = j + 1 then o j else o x

theorem SIn.start {z : Nat → Int} {o : Nat → Nat} {i : Nat} (h : SUp z o i) : SIn z o i i :=
  ⟨fun a b hab hb ha hbi => h a b hab (by omega), fun b h1 h2 => by omega⟩

theorem SIn.done {z : Nat → Int} {o : Nat → Nat} {i j : Nat} (h : SIn z o i j) (hj : j ≤ i) (ht : ∀ j', j = j' + 1 → z (o j') ≤ z (o j)) : SUp z o (i + 1) := by
  intro a b hab hb
  by_cases ea : a = j
  · subst ea; exact h.2 b hab (by omega)
  · by_cases eb : b = j
    · subst eb
      obtain ⟨j', e⟩ : ∃ j', b = j' + 1 := ⟨b - 1, by omega⟩
      have h1 := ht j' e
      by_cases e2 : a = j'
      · rw [e2]; exact h1
      · have := h.1 a j' (by omega) (by omega) ea (by omega)
        omega
    · exact h.1 a b hab (by omega) ea eb

theorem SIn.step {z : Nat → Int} {o : Nat → Nat} {i j : Nat} (h : SIn z o i (j + 1)) (hj : j + 1 ≤ i) (ht : z (o (j + 1)) < z (o j)) : SIn z (sw o j) i j := by
  have e0 : sw o j j = o (j + 1) := by simp [sw]
  have e1 : sw o j (j + 1) = o j := by simp [sw]
  have e2 : ∀ x, x ≠ j → x ≠ j + 1 → sw o j x = o x := fun x h1 h2 => by simp [sw, h1, h2]
  refine ⟨fun a b hab hb ha hbj => ?_, fun b h1 h2 => ?_⟩
  · by_cases ea : a = j + 1
    · rw [ea, e1, e2 b hbj (by omega)]
      exact h.1 j b (by omega) hb (by omega) (by omega)
    · rw [e2 a ha ea]
      by_cases eb : b = j + 1
      · rw [eb, e1]
        exact h.1 a j (by omega) (by omega) ea (by omega)
      · rw [e2 b hbj eb]
        exact h.1 a b hab hb ea eb
  · rw [e0]
    by_cases eb : b = j + 1
    · rw [eb, e1]; omega
    · rw [e2 b (by omega) eb]
      exact h.2 b (by omega) h2

/-- all places stand in the row, and nothing else -/
def Full (o : Nat → Nat) (n : Nat) : Prop := (∀ i, i < n → o i < n) ∧ ∀ t, t < n → ∃ i, i < n ∧ o i = t

theorem Full.sw {o : Nat → Nat} {n j : Nat} (h : Full o n) (hj : j + 1 < n) : Full (sw o j) n := by
  refine ⟨fun i hi => ?_, fun t ht => ?_⟩
  · unfold Qxb6605494a.sw
    split
    · exact h.1 _ hj
    · split
      · exact h.1 _ (by omega)
      · exact h.1 _ hi
  · obtain ⟨i, hi, e⟩ := h.2 t ht
    by_cases e1 : i = j
    · exact ⟨j + 1, hj, by subst e1; simp [Qxb6605494a.sw, e]⟩
    · by_cases e2 : i = j + 1
      · exact ⟨j, by omega, by subst e2; simp [Qxb6605494a.sw, e]⟩
      · exact ⟨i, hi, by simp [Qxb6605494a.sw, e1, e2, e]⟩

/-- what SortedPlaces leaves -/
def SortPost (n : Nat) (z : Nat → Int) (w : World) (e : Ending) (w' : World) : Prop :=
  ∃ o, e = .returned (.slice (some ⟨w.heap.size, 0, none⟩) n n) ∧ Row .i64 w.heap.size w' (some ⟨w.heap.size, 0, none⟩) n (fun i => (o i : Int)) ∧ Full o n ∧ SUp z o n ∧ Below w.heap.size w w'

set_option maxRecDepth 100000 in
set_option maxHeartbeats 4000000 in
theorem sorted_any (a : Option Addr) (n c lo : Nat) (z : Nat → Int) (w : World) (hn : n ≤ 4096) (h : Row .i64 lo w a n z) :
    Calls Try.prog 11 #[.slice a n c] w (SortPost n z w) := by
  have hmk := run_make_row' (P := Try.prog) 22 3 (.int .i64 0) 8 Try.underlying22 Try.info3 rfl .i64 .i64 n (by omega) (by omega)
  go_enter Try.func11, Try.ntmps11
  go_wp2
  clear hmk
  go_loopg [4] n (fun g i wr => ∃ k : Nat, k ≤ n ∧ g = n - k ∧ i = .int .i64 k ∧ wr.rowIs w.heap.size 3 n (fun i => if i < k then .int .i64 (i : Int) else .int .i64 0) ∧ Below w.heap.size w wr)
  case atStart => exact ⟨0, Nat.zero_le _, rfl, rfl, (World.rowIs_made w _ n 3).congr (fun j _ => by simp), (Below.refl _ _).alloc (Nat.le_refl _) _⟩
  case round =>
    obtain ⟨k, hk, rfl, rfl, hrow, hbel⟩ := hrel
    by_cases hlt : k < n
    · have c2 : wr.cell? ⟨w.heap.size, k, none⟩ = some (.int .i64 0) := by simpa using hrow.cell hlt
      have c3 : wr.frozen? ⟨w.heap.size, k, none⟩ = false := hrow.frozen k
      clear h
      go_wp2
      go_roundg (n - (k + 1))
      case measure => omega
      case rel => exact ⟨k + 1, by omega, rfl, by go_num, (hrow.set k _).congr (fun j hj => by
        by_cases e : j = k
        · subst e; simp
        · by_cases h2 : j < k
          · simp [e, h2, show j < k + 1 by omega]
          · simp [e, h2, show ¬ j < k + 1 by omega]), hbel.setCell (Nat.le_refl _) _⟩
    · obtain rfl : k = n := by omega
      have hrow2 : wr.rowIs w.heap.size 3 k (fun i => .int .i64 ((id i : Nat) : Int)) := hrow.congr (fun j hj => by simp [hj])
      clear hrow hk hlt
      go_wp2
      go_loopg [5] k (fun g i wr => ∃ (j : Nat) (o : Nat → Nat), (j + 1 ≤ k ∨ j = 0) ∧ g = k - j ∧ i = .int .i64 ((j : Int) + 1) ∧ wr.rowIs w.heap.size 3 k (fun i => .int .i64 (o i : Int)) ∧ Full o k ∧ SUp z o (j + 1) ∧ Below w.heap.size w wr)
      case atStart => exact ⟨0, id, .inr rfl, rfl, rfl, hrow2, ⟨fun i hi => hi, fun t ht => ⟨t, ht, rfl⟩⟩, (fun a b h1 h2 => by omega), hbel⟩
      case round =>
        clear hrow2 hbel
        obtain ⟨i, o, hi, rfl, rfl, hrow, hfull, hup, hbel⟩ := hrel
        by_cases hlt : i + 1 < k
        · have HI := SIn.start (i := i + 1) hup
          clear hup
          go_wp2
          obtain ⟨W0, hW0⟩ : ∃ W, W = wr := ⟨_, rfl⟩
          subst hW0
          go_loopg [6, 7] (i + 1) (fun g j a wr => ∃ (x : Nat) (o : Nat → Nat), x ≤ i + 1 ∧ x = g ∧ j = .int .i64 x ∧ wr.rowIs w.heap.size 3 k (fun i => .int .i64 (o i : Int)) ∧ Full o k ∧ SIn z o (i + 1) x ∧ Below w.heap.size w wr)
          case atStart => exact ⟨i + 1, o, Nat.le_refl _, rfl, by go_num, hrow, hfull, HI, hbel⟩
          case round =>
            clear hrow hfull HI hbel
            obtain ⟨x, o, hx, rfl, rfl, hrow, hfull, HI, hbel⟩ := hrel
            cases x with
            | zero =>
              have hd : decide ((0 : Int) < ((0 : Nat) : Int)) = false := by decide
              have HU : Hid (SUp z o (i + 1 + 1)) := HI.done (by omega) (fun j' e => by omega)
              clear HI h
              go_wp2
              go_quiet (fail)
              go_wp2
              go_roundg (k - (i + 1))
              case measure => omega
              case rel => exact ⟨i + 1, o, .inl (by omega), rfl, by go_num, hrow, hfull, HU.out, below_drewN hbel _⟩
            | succ x =>
              have p0 := hrow.cell (i := x) (by omega)
              have p1 := hrow.cell (i := x + 1) (by omega)
              have q0 := hfull.1 x (by omega)
              have q1 := hfull.1 (x + 1) (by omega)
              obtain ⟨ox, hox⟩ : ∃ y, y = o x := ⟨_, rfl⟩
              obtain ⟨oy, hoy⟩ : ∃ y, y = o (x + 1) := ⟨_, rfl⟩
              simp only [← hox, ← hoy] at p0 p1 q0 q1
              obtain ⟨b, off, rfl, _, hc0⟩ := h ox q0
              obtain ⟨b', off', e, _, hc1⟩ := h oy q1
              simp only [Option.some.injEq, Addr.mk.injEq] at e
              obtain ⟨rfl, rfl, _⟩ := e
              have d0 : wr.cell? ⟨b, off + ox, none⟩ = some (.int .i64 (z ox)) := by rw [hbel.cell (World.block_lt_of_cell? _ _ hc0)]; exact hc0
              have d1 : wr.cell? ⟨b, off + oy, none⟩ = some (.int .i64 (z oy)) := by rw [hbel.cell (World.block_lt_of_cell? _ _ hc1)]; exact hc1
              have f0 : wr.frozen? ⟨w.heap.size, x, none⟩ = false := hrow.frozen x
              have f1 : wr.frozen? ⟨w.heap.size, x + 1, none⟩ = false := hrow.frozen (x + 1)
              have g0 : (0 : Int) < (x : Int) + 1 := by omega
              have g1 : (x : Int) < (k : Int) := by omega
              have g2 : (x : Int) + 1 < (k : Int) := by omega
              have g3 : (ox : Int) < (k : Int) := by omega
              have g4 : (oy : Int) < (k : Int) := by omega
              have HX : Hid (ox = o x ∧ oy = o (x + 1)) := ⟨hox, hoy⟩
              clear hox hoy hc0 hc1 h
              by_cases ht : z oy < z ox
              · have HS : Hid (SIn z (sw o x) (i + 1) x) := HI.step hx (by rw [← HX.out.1, ← HX.out.2]; exact ht)
                clear HI
                go_wp2
                go_quiet (fail)
                go_wp2
                go_roundg x
                case measure => omega
                case rel =>
                  have hrow' : (wr.drewN nq).rowIs w.heap.size 3 k (fun i => .int .i64 (o i : Int)) := hrow
                  refine ⟨x, sw o x, by omega, rfl, rfl, ((hrow'.set x _).set (x + 1) _).congr (fun j hj => ?_), hfull.sw (by omega), HS.out, ((below_drewN hbel _).setCell (Nat.le_refl _) _).setCell (Nat.le_refl _) _⟩
                  obtain ⟨e1, e2⟩ := HX.out
                  by_cases ej : j = x + 1
                  · subst ej; simp [sw, e1]
                  · by_cases ej2 : j = x
                    · subst ej2; simp [sw, e2]
                    · simp [sw, ej, ej2]
              · have HU : Hid (SUp z o (i + 1 + 1)) := HI.done hx (fun j' e => by
                  obtain rfl : j' = x := by omega
                  rw [← HX.out.1, ← HX.out.2]; omega)
                clear HI
                go_wp2
                go_quiet (fail)
                go_wp2
                go_roundg (k - (i + 1))
                case measure => omega
                case rel => exact ⟨i + 1, o, .inl (by omega), rfl, by go_num, hrow, hfull, HU.out, below_drewN hbel _⟩
        · have HU : Hid (SUp z o k) := fun a b h1 h2 => hup a b h1 (by omega)
          clear hup h
          have i1 : (k : Int) ≤ (i : Int) + 1 := by omega
          go_wp2
          go_ret
          exact ⟨o, rfl, Row.of_rowIs (c := 0) hrow (Nat.le_refl _), hfull, HU.out, hbel⟩

/-- what WellFormed says where it says yes -/
def Good (n : Nat) (z : Nat → Int) (L : Nat → Nat) (Z : Nat → Nat → Int) : Prop :=
  (∀ p, p < n → ∀ k, k < L p → 0 ≤ Z p k ∧ Z p k < n) ∧ ∀ p q, p < n → q < n → z p = z q → p = q

theorem inj_of {n : Nat} {z : Nat → Int} {o : Nat → Nat} (hf : Full o n) (hu : SUp z o n) (hd : ∀ i, i + 1 < n → z (o i) ≠ z (o (i + 1))) : (∀ i j, i < j → j < n → z (o i) < z (o j)) ∧ ∀ p q, p < n → q < n → z p = z q → p = q := by
  have key : ∀ i j, i < j → j < n → z (o i) < z (o j) := by
    intro i j hij hj
    have h1 := hu i (i + 1) (by omega) (by omega)
    have h2 := hd i (by omega)
    by_cases e : j = i + 1
    · subst e; omega
    · have h3 := hu (i + 1) j (by omega) hj
      omega
  refine ⟨key, fun p q hp hq e => ?_⟩
  obtain ⟨i, hi, rfl⟩ := hf.2 p hp
  obtain ⟨j, hj, rfl⟩ := hf.2 q hq
  by_cases h1 : i < j
  · have := key i j h1 hj; omega
  · by_cases h2 : j < i
    · have := key j i h2 hi; omega
    · rw [show i = j by omega]

def WellPost (n m : Nat) (z : Nat → Int) (L : Nat → Nat) (Z : Nat → Nat → Int) (w : World) (e : Ending) (w' : World) : Prop :=
  ∃ r : Bool, e = .returned (.bool r) ∧ (r = true → m = n ∧ Good n z L Z) ∧ Below w.heap.size w w'

set_option maxRecDepth 100000 in
set_option maxHeartbeats 4000000 in
theorem well_any (a1 a2 : Option Addr) (n m c1 c2 lo : Nat) (z : Nat → Int) (A : Nat → Option Addr) (L C : Nat → Nat) (Z : Nat → Nat → Int) (w : World) (m1 : n ≤ 4096) (m2 : m ≤ 4096)
    (h1 : Row .i64 lo w a1 n z) (h : Mat lo w a2 m A L C Z) (hL : ∀ i, i < m → L i ≤ 1048576) (hZ : ∀ i, i < m → ∀ k, k < L i → -2147483648 ≤ Z i k ∧ Z i k ≤ 2147483647) :
    Calls Try.prog 6 #[.slice a1 n c1, .slice a2 m c2] w (WellPost n m z L Z w) := by
  by_cases hmn : m = n
  · subst hmn
    have hne : ((m : Int) != (m : Int)) = false := by simp
    go_enter Try.func6, Try.ntmps6
    go_wp2
    go_loopg [6, 7, 8] m (fun g p k t wr => w = wr ∧ ∃ i : Nat, i ≤ m ∧ g = m - i ∧ p = .int .i64 i ∧ Hid (∀ p, p < i → ∀ k, k < L p → 0 ≤ Z p k ∧ Z p k < m))
    case atStart => exact ⟨rfl, 0, Nat.zero_le _, rfl, rfl, fun p hp => absurd hp (Nat.not_lt_zero _)⟩
    case round =>
      obtain ⟨rfl, i, hi, rfl, rfl, H⟩ := hrel
      by_cases hlt : i < m
      · obtain ⟨⟨b, off, rfl, _, hc⟩, hr⟩ := h i hlt
        have hl := hL i hlt
        have hz := hZ i hlt
        go_wp2
        go_loopg [7, 8] (L i) (fun g k t wr => w = wr ∧ ∃ j : Nat, j ≤ L i ∧ g = L i - j ∧ k = .int .i64 j ∧ Hid (∀ k, k < j → 0 ≤ Z i k ∧ Z i k < m))
        case atStart => exact ⟨rfl, 0, Nat.zero_le _, rfl, rfl, fun p hp => absurd hp (Nat.not_lt_zero _)⟩
        case round =>
          obtain ⟨rfl, j, hj, rfl, rfl, HJ⟩ := hrel
          clear h hL hZ
          by_cases hlj : j < L i
          · obtain ⟨b2, off2, ea, _, hc2⟩ := hr j hlj
            rw [ea] at hc
            have hzj := hz j hlj
            clear hr hz
            by_cases h0 : Z i j < 0
            · go_wp2
              go_ret
              exact ⟨false, rfl, (fun h => by cases h), Below.refl _ _⟩
            · by_cases h3 : (m : Int) ≤ Z i j
              · have d0 : decide (Z i j < 0) = false := by simpa using h0
                go_wp2
                go_ret
                exact ⟨false, rfl, (fun h => by cases h), Below.refl _ _⟩
              · have d0 : decide (Z i j < 0) = false := by simpa using h0
                go_wp2
                go_roundg (L i - (j + 1))
                case measure => omega
                case rel => exact ⟨rfl, j + 1, by omega, rfl, by go_num, fun k hk => by
                  by_cases e : k = j
                  · subst e; omega
                  · exact HJ.out k (by omega)⟩
          · clear hr hz
            go_wp2
            go_roundg (m - (i + 1))
            case measure => omega
            case rel => exact ⟨rfl, i + 1, by omega, rfl, by go_num, fun p hp => by
              by_cases e : p = i
              · subst e; exact fun k hk => HJ.out k (by omega)
              · exact H.out p (by omega)⟩
      · have HG : Hid (∀ p, p < m → ∀ k, k < L p → 0 ≤ Z p k ∧ Z p k < m) := fun p hp => H.out p (by omega)
        clear h hL hZ H
        go_wp2_with fail
        refine (sorted_any a1 m c1 lo z _ m1 h1).mono ?_
        rintro e w1 ⟨o, rfl, hro, hfull, hup, hb1⟩
        go_wp2_with fail
        go_loopg [10] m (fun g i wr => ∃ j : Nat, (j + 1 ≤ m ∨ j = 0) ∧ g = m - j ∧ i = .int .i64 ((j : Int) + 1) ∧ Hid (∀ i, i + 1 < j + 1 → z (o i) ≠ z (o (i + 1))) ∧ Below w1.heap.size w1 wr)
        case atStart => exact ⟨0, .inr rfl, rfl, rfl, (fun i hi => by omega), Below.refl _ _⟩
        case round =>
          obtain ⟨j, hj, rfl, rfl, HD, hbel⟩ := hrel
          by_cases hlj : j + 1 < m
          · obtain ⟨b2, off2, e2, _, p0⟩ := hro j (by omega)
            obtain ⟨b3, off3, e3, _, p1⟩ := hro (j + 1) hlj
            simp only [Option.some.injEq, Addr.mk.injEq] at e2 e3
            obtain ⟨rfl, rfl, _⟩ := e2
            obtain ⟨rfl, rfl, _⟩ := e3
            have q0 := hfull.1 j (by omega)
            have q1 := hfull.1 (j + 1) hlj
            obtain ⟨ox, hox⟩ : ∃ y, y = o j := ⟨_, rfl⟩
            obtain ⟨oy, hoy⟩ : ∃ y, y = o (j + 1) := ⟨_, rfl⟩
            simp only [← hox, ← hoy, Nat.zero_add] at p0 p1 q0 q1
            obtain ⟨b, off, rfl, _, hc0⟩ := h1 ox q0
            obtain ⟨b', off', e, _, hc1⟩ := h1 oy q1
            simp only [Option.some.injEq, Addr.mk.injEq] at e
            obtain ⟨rfl, rfl, _⟩ := e
            have hb2 := hb1.trans (hbel.mono hb1.size)
            have d0 : wr.cell? ⟨b, off + ox, none⟩ = some (.int .i64 (z ox)) := by rw [hb2.cell (World.block_lt_of_cell? _ _ hc0)]; exact hc0
            have d1 : wr.cell? ⟨b, off + oy, none⟩ = some (.int .i64 (z oy)) := by rw [hb2.cell (World.block_lt_of_cell? _ _ hc1)]; exact hc1
            have d2 : wr.cell? ⟨w.heap.size, j, none⟩ = some (.int .i64 ox) := by rw [hbel.cell (World.block_lt_of_cell? _ _ p0)]; exact p0
            have d3 : wr.cell? ⟨w.heap.size, j + 1, none⟩ = some (.int .i64 oy) := by rw [hbel.cell (World.block_lt_of_cell? _ _ p1)]; exact p1
            have g1 : (j : Int) < (m : Int) := by omega
            have g2 : (j : Int) + 1 < (m : Int) := by omega
            have g3 : (ox : Int) < (m : Int) := by omega
            have g4 : (oy : Int) < (m : Int) := by omega
            have HX : Hid (ox = o j ∧ oy = o (j + 1)) := ⟨hox, hoy⟩
            clear hox hoy hc0 hc1 h1 p0 p1 hro
            by_cases ht : z ox = z oy
            · have ht' : (z ox == z oy) = true := by simpa using ht
              clear ht
              go_wp2
              go_quiet (fail)
              go_wp2
              go_ret
              exact ⟨false, rfl, (fun h => by cases h), below_drewN hb2 _⟩
            · have ht' : (z ox == z oy) = false := by simpa using ht
              have HT : Hid (z ox ≠ z oy) := ht
              clear ht
              go_wp2
              go_quiet (fail)
              go_wp2
              go_roundg (m - (j + 1))
              case measure => omega
              case rel => exact ⟨j + 1, .inl (by omega), rfl, by go_num, (fun i hi => by
                by_cases e : i = j
                · subst e; rw [← HX.out.1, ← HX.out.2]; exact HT.out
                · exact HD.out i (by omega)), below_drewN hbel _⟩
          · have HI : Hid (Good m z L Z) := ⟨HG.out, (inj_of hfull hup (fun i hi => HD.out i (by omega))).2⟩
            have hb2 := hb1.trans (hbel.mono hb1.size)
            have i1 : (m : Int) ≤ (j : Int) + 1 := by omega
            clear h1 hro
            go_wp2
            go_ret
            exact ⟨true, rfl, fun _ => ⟨rfl, HI.out⟩, hb2⟩
  · have hne : ((m : Int) != (n : Int)) = true := by rw [bne_iff_ne]; omega
    go_enter Try.func6, Try.ntmps6
    go_wp2
    go_ret
    exact ⟨false, rfl, (fun h => by cases h), Below.refl _ _⟩
end Go.Proofs.Qxb6605494a
