import Derived.Test.Qxb6606080aWalkD
namespace Go.Proofs.Qxb6606080a
open Go.RowKit
set_option linter.unusedVariables false

theorem Strs.congr {w : World} {a : Option Addr} {n : Nat} {S T : Nat → ByteArray} (h : Strs w a n S) (e : ∀ i, i < n → S i = T i) : Strs w a n T := by
  intro i hi
  obtain ⟨b, off, e1, hc, hs⟩ := h i hi
  rw [e i hi] at hc hs
  exact ⟨b, off, e1, hc, hs⟩

theorem up_of (L : List ByteArray) (h : UpTo (Pl.get L) L.length) : Pl.Up L := h

theorem member_eq (L : List ByteArray) (x : ByteArray) (r : Bool) (h : r = true ↔ ∃ i, i < L.length ∧ ((Pl.get L i).toList == x.toList) = true) : r = Pl.memB L x := by
  have : r = true ↔ Pl.memB L x = true := by
    rw [h, Pl.memB_iff]
    constructor
    · rintro ⟨i, hi, e⟩; exact ⟨i, hi, Pl.ba_eq (eq_of_beq e)⟩
    · rintro ⟨i, hi, e⟩; exact ⟨i, hi, by rw [e]; simp⟩
  cases r <;> cases h2 : Pl.memB L x <;> simp [h2] at this ⊢

theorem diff_len (ids listed : List ByteArray) : (Pl.diff ids listed).length ≤ ids.length := List.length_filter_le _ _
theorem diff_mem (ids listed : List ByteArray) (x : ByteArray) (h : x ∈ Pl.diff ids listed) : x ∈ ids := (List.mem_filter.1 h).1

theorem unlisted_n (a1 a2 : Option Addr) (c1 c2 n nl : Nat) (ids listed : List ByteArray) (hn : n = ids.length) (hl : nl = listed.length) (w : World) (m1 : n ≤ 4096) (m2 : nl ≤ 4096) (hc2 : nl ≤ c2)
    (h1 : Strs w a1 n (Pl.get ids)) (h2 : Strs w a2 nl (Pl.get listed)) (u1 : Pl.Up ids) (u2 : Pl.Up listed) (hz1 : ∀ x ∈ ids, x.size ≤ maxLen) :
    Calls Try.prog 16 #[.slice a1 n c1, .slice a2 nl c2] w fun e w' => (∃ a c nd, e = .returned (.slice a nd c) ∧ Hid (nd = (Pl.diff ids listed).length) ∧ nd ≤ c ∧ nd ≤ n ∧ Strs w' a nd (Pl.get (Pl.diff ids listed))) ∧ Below w.heap.size w w' := by
  subst hn hl
  refine (unlisted_any a1 a2 c1 c2 ids listed w m1 m2 hc2 h1 h2 u1 u2).mono ?_
  rintro e w5 ⟨⟨v, rfl, hO⟩, hb5⟩
  obtain ⟨a5, c5, rfl, l5, s5⟩ := hO.strs (fun x hx => hz1 x (diff_mem _ _ _ hx))
  exact ⟨⟨a5, c5, _, rfl, rfl, l5, diff_len _ _, s5⟩, hb5⟩

set_option maxRecDepth 100000 in
set_option maxHeartbeats 4000000 in
theorem top3 (a1 a2 : Option Addr) (c1 c2 n nl : Nat) (ids listed : List ByteArray) (w : World) (HN : Hid (n = ids.length)) (HL : Hid (nl = listed.length)) (m1 : n ≤ 9223372036854775807) (m2 : nl ≤ 9223372036854775807)
    (z1 : a1 = none → n = 0 ∧ c1 = 0) (z2 : a2 = none → nl = 0 ∧ c2 = 0) (hz1 : ∀ x ∈ ids, x.size ≤ maxLen)
    (h1 : Strs w a1 n (Pl.get ids)) (h2 : Strs w a2 nl (Pl.get listed)) :
    Calls Try.prog 3 #[.slice a1 n c1, .slice a2 nl c2] w fun e w' => e = .returned (.bool true) ∧ Below w.heap.size w w' := by
  have Z1 : Hid (a1 = none → n = 0 ∧ c1 = 0) := z1
  have Z2 : Hid (a2 = none → nl = 0 ∧ c2 = 0) := z2
  have HZ : Hid (∀ x ∈ ids, x.size ≤ maxLen) := hz1
  clear z1 z2 hz1
  go_enter Try.func3, Try.ntmps3
  go_wp2_with fail
  refine (zzBytes6 a1 a2 n nl c1 c2 _ _ _ m1 m2 h1 h2).mono ?_
  rintro e w' ⟨⟨r, rfl⟩, rfl⟩
  cases r with
  | false =>
    go_wp2_with fail
    go_ret
    exact ⟨rfl, Below.refl _ _⟩
  | true =>
    by_cases n1 : n ≤ 4096
    · by_cases n2 : nl ≤ 4096
      · go_wp2_with fail
        refine (within_any a1 a2 n nl c1 c2 _ _ _ n1 n2 h1 h2).mono ?_
        rintro e w' ⟨⟨r, rfl⟩, rfl⟩
        cases r with
        | false =>
          go_wp2_with fail
          go_ret
          exact ⟨rfl, Below.refl _ _⟩
        | true =>
          go_wp2_with fail
          refine (sortedUp_any a1 n c1 _ _ n1 h1).mono ?_
          rintro e w1 ⟨⟨r, rfl, hr⟩, hb1⟩
          cases r with
          | false =>
            go_wp2_with fail
            go_ret
            exact ⟨rfl, hb1⟩
          | true =>
            have u1 := up_of ids (by rw [← HN.out]; exact hr rfl)
            have k1 := h1.below hb1
            have k2 := h2.below hb1
            clear hr h1 h2
            go_wp2_with fail
            refine (sortedUp_any a2 nl c2 _ _ n2 k2).mono ?_
            rintro e w2 ⟨⟨r, rfl, hr⟩, hb2⟩
            have b2 := hb1.trans (hb2.mono hb1.size)
            cases r with
            | false =>
              go_wp2_with fail
              go_ret
              exact ⟨rfl, b2⟩
            | true =>
              have u2 := up_of listed (by rw [← HL.out]; exact hr rfl)
              have h1 := k1.below hb2
              have h2 := k2.below hb2
              clear hr k1 k2 hb1 hb2
              go_wp2_with fail
              refine (clone_any a1 n c1 _ _ n1 Z1.out h1).mono ?_
              rintro e w3 ⟨a3, c3, rfl, l3, s3, hb3⟩
              have b3 := b2.trans (hb3.mono b2.size)
              have k2 := h2.below hb3
              clear b2 h1 h2 hb3
              go_wp2_with fail
              refine (clone_any a2 nl c2 _ _ n2 Z2.out k2).mono ?_
              rintro e w4 ⟨a4, c4, rfl, l4, s4, hb4⟩
              have b4 := b3.trans (hb4.mono b3.size)
              have s3' := s3.below hb4
              clear b3 k2 hb4 s3
              go_wp2_with (go_at_call 10; go_in)
              refine (unlisted_n a3 a4 c3 c4 n nl ids listed HN.out HL.out _ n1 n2 l4 s3' s4 u1 u2 HZ.out).mono ?_
              rintro e w5 ⟨⟨a5, c5, nd, rfl, HD, l5, ld, s5⟩, hb5⟩
              have b5 := b4.trans (hb5.mono b4.size)
              have t3 := s3'.below hb5
              have t4 := s4.below hb5
              clear b4 s3' s4 hb5 m1 m2 Z1 Z2
              have hmk := make0 n (by omega)
              go_upto_region 15 with (fail)
              clear hmk
              obtain ⟨W, hW⟩ : ∃ W, W = w5.alloc (.cells (madeCells #[.string ⟨#[]⟩] n) 9) := ⟨_, rfl⟩
              have hO0 : Owns W w5.heap.size (.slice (some ⟨w5.heap.size, 0, none⟩) 0 n) [] := by rw [hW]; exact Owns.made w5 _ n (Nat.le_refl _) (by omega)
              have hB0 : Below w5.heap.size w5 W := by rw [hW]; exact (Below.refl _ _).alloc (Nat.le_refl _) _
              rw [← hW]
              clear hW
              go_cut [5, 7] from 37 to 39 (fun v5 v7 wc => W = wc ∧ v5 = .slice a5 nd c5 ∧ v7 = .int .i64 0)
              case first =>
                go_wp2
                go_meet
                case rel => exact ⟨rfl, rfl, rfl⟩
              case rest =>
                obtain ⟨rfl, rfl, rfl⟩ := hcut
                go_wp2_with fail
                go_loopg [6, 7] n (fun g v i wr => ∃ k : Nat, k ≤ n ∧ g = n - k ∧ i = .int .i64 k ∧ Owns wr w5.heap.size v (Pl.diff (ids.take k) listed) ∧ Below w5.heap.size w5 wr)
                case atStart => exact ⟨0, Nat.zero_le _, rfl, rfl, (by simpa [Pl.diff] using hO0), hB0⟩
                case round =>
                  clear hO0 hB0
                  obtain ⟨k, hk, rfl, rfl, hOwn, hbel⟩ := hrel
                  by_cases hlt : k < n
                  · obtain ⟨b, off, rfl, hc, _⟩ := t3 k hlt
                    have d1 : wr.cell? ⟨b, off + k, none⟩ = some (.string (Pl.get ids k)) := by rw [hbel.cell (World.block_lt_of_cell? _ _ hc)]; exact hc
                    have t4' := t4.below hbel
                    have hdl : (Pl.diff (ids.take k) listed).length ≤ 8192 := by
                      have h1 := diff_len (ids.take k) listed
                      have h2 := List.length_take_le k ids
                      omega
                    have hsz := hbel.size
                    have HKI : Hid (k < ids.length) := by show _ < _; rw [← HN.out]; exact hlt
                    clear hc t3 t4
                    go_wp2_with fail
                    refine (member_any a4 nl c4 _ (Pl.get ids k) _ n2 t4').mono ?_
                    rintro e w7 ⟨⟨r, rfl, hr⟩, hw7⟩
                    subst hw7
                    rw [HL.out] at hr
                    have hm := member_eq listed _ r hr
                    clear hr t4'
                    cases r with
                    | true =>
                      have NN : Hid (true = Pl.memB listed (Pl.get ids k)) := hm
                      clear hm
                      go_wp2_with fail
                      go_roundg (n - (k + 1))
                      case measure => omega
                      case rel =>
                        refine ⟨k + 1, by omega, rfl, by go_num, ?_, hbel⟩
                        rw [Pl.diff_snoc _ _ _ HKI.out, if_pos NN.out.symm, List.append_nil]; exact hOwn
                    | false =>
                      have NN : Hid (false = Pl.memB listed (Pl.get ids k)) := hm
                      clear hm
                      go_wp2_with (at_builtin; refine wpList_push hOwn hdl hsz rfl (.tmp 53) (.tmp 58) rfl rfl rfl ?_; intro v' w8 O1 B1)
                      go_roundg (n - (k + 1))
                      case measure => omega
                      case rel =>
                        refine ⟨k + 1, by omega, rfl, by go_num, ?_, hbel.trans B1⟩
                        rw [Pl.diff_snoc _ _ _ HKI.out, if_neg (by rw [← NN.out]; decide)]; exact O1
                  · have ek : k = ids.length := by have := HN.out; omega
                    rw [ek, List.take_length] at hOwn
                    obtain ⟨a6, c6, hv6, l6, s6⟩ := hOwn.strs (fun x hx => HZ.out x (diff_mem _ _ _ hx))
                    rw [← HD.out] at hv6 s6
                    rw [hv6]
                    have s5' := s5.below hbel
                    have b7 := b5.trans (hbel.mono b5.size)
                    have H7 : Hid (Below w'.heap.size w' wr) := b7
                    clear hv6 hOwn t3 t4 s5 b5 b7 ek
                    go_wp2_with fail
                    refine (same_any a5 a6 nd c5 c6 _ _ _ (by omega) s5' s6 (fun _ _ => rfl)).mono ?_
                    rintro e w9 ⟨rfl, hb9⟩
                    go_wp2_with fail
                    go_ret
                    exact ⟨rfl, H7.out.trans (hb9.mono H7.out.size)⟩
      · go_wp2_with fail
        go_ret
        exact ⟨rfl, Below.refl _ _⟩
    · go_wp2_with fail
      go_ret
      exact ⟨rfl, Below.refl _ _⟩
end Go.Proofs.Qxb6606080a
