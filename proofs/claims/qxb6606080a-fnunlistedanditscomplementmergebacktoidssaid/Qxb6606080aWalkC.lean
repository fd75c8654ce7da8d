import Derived.Test.Qxb6606080aWalkB
namespace Go.Proofs.Qxb6606080a
open Go.RowKit
set_option linter.unusedVariables false

/-- v owns the strings M, in memory from block B on -/
def Owns (w : World) (B : Nat) (v : Value) (M : List ByteArray) : Prop := w.ownsRow B 9 1 v M.length (M.map Value.string)

theorem Owns.nil (w : World) (B : Nat) : Owns w B (.slice none 0 0) [] := World.ownsRow_nil _ _ _ _

/-- one more string appended: the kit's law at this shape -/
theorem wpList_push {ops : Array Oper} {rest : List Oper} {o : Oper} {a : Act} {Q : Exit → Act → World → Prop} {wc : World} {B : Nat} {v : Value} {M : List ByteArray} {x : ByteArray}
    (A : Owns wc B v M) (hl : M.length ≤ 8192) (hB : B ≤ wc.heap.size) (hgd : o.guard = none) (s y : Operand) (ho : o.op = .call { callee := .builtin .append, args := #[s, y], argTypes := #[22, 22] })
    (hs : a.eval s = v) (hx : a.eval y = .slice (some ⟨wc.heap.size, 0, none⟩) 1 1)
    (h : ∀ v' w', Owns w' B v' (M ++ [x]) → Below B wc w' → wpList Try.prog ops Q rest (a.put o.dst v') w') :
    wpList Try.prog ops Q (o :: rest) a (wc.alloc (.cells #[.string x] 9)) := by
  obtain ⟨i0, hi, hz0, hz1, hz2⟩ := info_parts Try.info9
  refine wpList_append_own _ hgd s y 22 ho B 9 i0 _ 1 16 Try.underlying22 hi hz0 hz1 hz2 rfl (by decide) v M.length (M.map Value.string) hs (World.ownsRow.alloc A _) ⟨wc.heap.size, 0, none⟩ 1 1 [.string x] hx rfl (cell_one_new _ _ _) (fun u hu => by simp at hu; subst hu; rfl) (by unfold maxLen; omega) (by omega) (by simp; omega) ?_
  intro v' w' h1 h2 _
  refine h v' w' ?_ ?_
  · unfold Owns; rw [List.length_append, List.map_append]; exact h1
  · exact ((Below.refl B wc).alloc hB _).grown h2 (by simp; omega) (fun k hk => (A.lt k hk).1)

theorem Owns.strs {w : World} {B : Nat} {v : Value} {M : List ByteArray} (h : Owns w B v M) (hs : ∀ x ∈ M, x.size ≤ maxLen) : ∃ a c, v = .slice a M.length c ∧ M.length ≤ c ∧ Strs w a M.length (Pl.get M) := by
  rcases h.2 with ⟨rfl, h0⟩ | ⟨g, cap, cur, rfl, _, _, hc, _⟩
  · exact ⟨none, 0, by rw [h0], by omega, fun i hi => by omega⟩
  · refine ⟨_, cap, rfl, hc, fun i hi => ⟨g, 0, rfl, ?_, ?_⟩⟩
    · rw [Nat.zero_add, World.ownsRow.cellAt h i (by omega), Pl.get_lt M i hi, List.getElem?_map, List.getElem?_eq_getElem hi]; rfl
    · rw [Pl.get_lt M i hi]; exact hs _ (List.getElem_mem hi)

set_option maxRecDepth 100000 in
set_option maxHeartbeats 4000000 in
theorem unlisted_any (a1 a2 : Option Addr) (c1 c2 : Nat) (ids listed : List ByteArray) (w : World) (m1 : ids.length ≤ 4096) (m2 : listed.length ≤ 4096) (hc2 : listed.length ≤ c2)
    (h1 : Strs w a1 ids.length (Pl.get ids)) (h2 : Strs w a2 listed.length (Pl.get listed)) (u1 : Pl.Up ids) (u2 : Pl.Up listed) :
    Calls Try.prog 16 #[.slice a1 ids.length c1, .slice a2 listed.length c2] w fun e w' => (∃ v, e = .returned v ∧ Owns w' w.heap.size v (Pl.diff ids listed)) ∧ Below w.heap.size w w' := by
  obtain ⟨n, hn⟩ : ∃ n, n = ids.length := ⟨_, rfl⟩
  obtain ⟨nl, hnl⟩ : ∃ n, n = listed.length := ⟨_, rfl⟩
  rw [← hn] at m1 h1 ⊢
  rw [← hnl] at m2 hc2 h2 ⊢
  have HN : Hid (n = ids.length) := hn
  have HL : Hid (nl = listed.length) := hnl
  clear hn hnl
  go_enter Try.func16, Try.ntmps16
  go_wp2
  go_loopg [1, 5, 10] n (fun g ls v i wr => ∃ (k j m c' : Nat) (a' : Option Addr), k ≤ n ∧ g = n - k ∧ i = .int .i64 k ∧ Hid (j + m = nl) ∧ m ≤ c' ∧ m ≤ 4096 ∧ ls = .slice a' m c' ∧ Strs w a' m (fun i => Pl.get listed (j + i)) ∧
    Pl.Seen ids listed k j ∧ Owns wr w.heap.size v (Pl.diff (ids.take k) listed) ∧ Below w.heap.size w wr)
  case atStart => exact ⟨0, 0, nl, c2, a2, Nat.zero_le _, rfl, rfl, Nat.zero_add _, hc2, m2, rfl, (by simpa using h2), Pl.Seen.zero _ _ _, (by simpa [Pl.diff] using Owns.nil w _), Below.refl _ _⟩
  case round =>
    obtain ⟨k, j, m, c', a', hk, rfl, rfl, HJ, hmc, hm4, rfl, hS, hSeen, hOwn, hbel⟩ := hrel
    by_cases hlt : k < n
    · obtain ⟨b, off, rfl, hc, _⟩ := h1 k hlt
      have d1 : wr.cell? ⟨b, off + k, none⟩ = some (.string (Pl.get ids k)) := by rw [hbel.cell (World.block_lt_of_cell? _ _ hc)]; exact hc
      clear h1 h2 hc
      go_wp2
      obtain ⟨wo, hwo⟩ : ∃ W, W = wr := ⟨_, rfl⟩
      subst hwo
      go_loopg [1] m (fun g ls wr => wo = wr ∧ ∃ (j m c' : Nat) (a' : Option Addr), m = g ∧ Hid (j + m = nl) ∧ m ≤ c' ∧ m ≤ 4096 ∧ ls = .slice a' m c' ∧ Strs w a' m (fun i => Pl.get listed (j + i)) ∧ Pl.Seen ids listed k j)
      case atStart => exact ⟨rfl, j, m, c', a', rfl, HJ, hmc, hm4, rfl, hS, hSeen⟩
      case round =>
        clear HJ hmc hm4 hS hSeen
        obtain ⟨rfl, j, m, c', a', rfl, HJ, hmc, hm4, rfl, hS, hSeen⟩ := hrel
        have hdl : (Pl.diff (ids.take k) listed).length ≤ 8192 := by
          have h1 := List.length_filter_le (fun x => !Pl.memB listed x) (ids.take k)
          have h2 := List.length_take_le k ids
          unfold Pl.diff; omega
        have hsz := hbel.size
        have hki : k < ids.length := by have := HN.out; omega
        have HKI : Hid (k < ids.length) := hki
        clear hki
        by_cases hm0 : m = 0
        · subst hm0
          have hnone := Pl.Seen.none hSeen HKI.out (by have := HL.out; have := HJ.out; omega)
          have hd : decide ((0 : Int) < ((0 : Nat) : Int)) = false := by decide
          have NN : Hid (Pl.memB listed (Pl.get ids k) = false) := hnone
          clear hnone hS
          go_wp2_with (at_builtin; refine wpList_push hOwn hdl hsz rfl (.tmp 36) (.tmp 38) rfl rfl rfl ?_; intro v' w1 O1 B1)
          go_roundg (n - (k + 1))
          case measure => omega
          case rel =>
            refine ⟨k + 1, j, 0, c', a', by omega, rfl, by go_num, HJ, by omega, by omega, rfl, (fun i hi => by omega), hSeen.mono (by omega), ?_, hbel.trans B1⟩
            rw [Pl.diff_snoc _ _ _ HKI.out, if_neg (by rw [NN.out]; decide)]; exact O1
        · obtain ⟨b2, off2, rfl, hc0, _⟩ := hS 0 (by omega)
          simp only [Nat.add_zero] at hc0
          have hc2' : wo.cell? ⟨b2, off2, none⟩ = some (.string (Pl.get listed j)) := by rw [hbel.cell (World.block_lt_of_cell? _ _ hc0)]; exact hc0
          clear hc0
          have hm1 : (0 : Int) < (m : Int) := by omega
          cases hl : Op.bytesLess (Pl.get listed j).toList (Pl.get ids k).toList with
          | true =>
            have HSS : Hid (Strs w (some ⟨b2, off2, none⟩) m (fun i => Pl.get listed (j + i))) := hS
            clear hS
            have HS1 : Hid (Pl.Seen ids listed k (j + 1)) := hSeen.step u1 hl
            clear hSeen
            by_cases hcc : c' = 1
            · subst hcc
              obtain rfl : m = 1 := by omega
              go_wp2
              go_roundg 0
              case measure => omega
              case rel => exact ⟨rfl, j + 1, 0, 0, _, rfl, (by have := HJ.out; show j + 1 + 0 = nl; omega), by omega, by omega, rfl, (fun i hi => by omega), HS1.out⟩
            · go_wp2
              go_roundg (m - 1)
              case measure => omega
              case rel => exact ⟨rfl, j + 1, m - 1, c' - 1, some ⟨b2, off2 + 1, none⟩, rfl, (by have := HJ.out; show j + 1 + (m - 1) = nl; omega), by omega, by omega, rfl, (fun i hi => by
                obtain ⟨b3, off3, e, h3, h4⟩ := HSS.out (i + 1) (by omega)
                simp only [Option.some.injEq, Addr.mk.injEq] at e
                obtain ⟨rfl, rfl, _⟩ := e
                refine ⟨b2, off2 + 1, rfl, ?_, ?_⟩
                · show w.cell? ⟨b2, off2 + 1 + i, none⟩ = some (.string (Pl.get listed (j + 1 + i)))
                  rw [show off2 + 1 + i = off2 + (i + 1) by omega, show j + 1 + i = j + (i + 1) by omega]; exact h3
                · show (Pl.get listed (j + 1 + i)).size ≤ maxLen
                  rw [show j + 1 + i = j + (i + 1) by omega]; exact h4), HS1.out⟩
          | false =>
            have hjl : j < listed.length := by have := HL.out; have := HJ.out; omega
            have hmem := Pl.Seen.mem u2 hSeen HKI.out hjl hl
            have hm0' : ((m : Int) == 0) = false := by simpa using hm0
            clear hjl
            cases he : (Pl.get listed j).toList == (Pl.get ids k).toList with
            | true =>
              rw [he] at hmem
              have NN : Hid (Pl.memB listed (Pl.get ids k) = true) := hmem
              clear hmem
              go_wp2
              go_roundg (n - (k + 1))
              case measure => omega
              case rel =>
                refine ⟨k + 1, j, m, c', _, by omega, rfl, by go_num, HJ, hmc, hm4, rfl, hS, hSeen.mono (by omega), ?_, hbel⟩
                rw [Pl.diff_snoc _ _ _ HKI.out, if_pos NN.out, List.append_nil]; exact hOwn
            | false =>
              rw [he] at hmem
              have NN : Hid (Pl.memB listed (Pl.get ids k) = false) := hmem
              clear hmem
              go_wp2_with (at_builtin; refine wpList_push hOwn hdl hsz rfl (.tmp 36) (.tmp 38) rfl rfl rfl ?_; intro v' w1 O1 B1)
              go_roundg (n - (k + 1))
              case measure => omega
              case rel =>
                refine ⟨k + 1, j, m, c', _, by omega, rfl, by go_num, HJ, hmc, hm4, rfl, hS, hSeen.mono (by omega), ?_, hbel.trans B1⟩
                rw [Pl.diff_snoc _ _ _ HKI.out, if_neg (by rw [NN.out]; decide)]; exact O1
    · clear h1 h2
      go_wp2
      go_ret
      have ek : k = ids.length := by have := HN.out; omega
      rw [ek, List.take_length] at hOwn
      exact ⟨⟨_, rfl, hOwn⟩, hbel⟩
end Go.Proofs.Qxb6606080a
