import Derived.Test.Qxb6606080aWalkE
namespace Go.Proofs.Qxb6606080a
open Go.RowKit
set_option linter.unusedVariables false

theorem present_eq' (ids listed : List ByteArray) : Pl.diff ids (Pl.diff ids listed) = ids.filter fun x => !(!Pl.memB listed x) := by
  rw [Pl.present_eq]
  apply List.filter_congr
  intro x _
  simp

theorem halves (ids listed : List ByteArray) : (Pl.diff ids listed).length + (Pl.diff ids (Pl.diff ids listed)).length = ids.length := by
  rw [present_eq']; exact Pl.halves_length ids _

theorem merge_n (a1 a2 : Option Addr) (c1 c2 n nd np : Nat) (ids listed : List ByteArray) (hn : n = ids.length) (hd : nd = (Pl.diff ids listed).length) (hp : np = (Pl.diff ids (Pl.diff ids listed)).length) (w : World) (m : n ≤ 4096) (hu : Pl.Up ids)
    (hz : ∀ x ∈ ids, x.size ≤ maxLen) (h1 : Strs w a1 nd (Pl.get (Pl.diff ids listed))) (h2 : Strs w a2 np (Pl.get (Pl.diff ids (Pl.diff ids listed)))) :
    Calls Try.prog 15 #[.slice a1 nd c1, .slice a2 np c2] w fun e w' => (∃ a c, e = .returned (.slice a n c) ∧ Strs w' a n (Pl.get ids)) ∧ Below w.heap.size w w' := by
  subst hn hd hp
  rw [present_eq'] at h2 ⊢
  refine (merge_any a1 a2 c1 c2 ids (fun x => !Pl.memB listed x) w m hu h1 h2).mono ?_
  rintro e w5 ⟨⟨v, rfl, hO⟩, hb5⟩
  obtain ⟨a5, c5, rfl, l5, s5⟩ := hO.strs hz
  exact ⟨⟨a5, c5, rfl, s5⟩, hb5⟩

set_option maxRecDepth 100000 in
set_option maxHeartbeats 4000000 in
theorem top5 (a1 a2 : Option Addr) (c1 c2 n nl : Nat) (ids listed : List ByteArray) (w : World) (HN : Hid (n = ids.length)) (HL : Hid (nl = listed.length)) (m1 : n ≤ 9223372036854775807) (m2 : nl ≤ 9223372036854775807)
    (z1 : a1 = none → n = 0 ∧ c1 = 0) (z2 : a2 = none → nl = 0 ∧ c2 = 0) (hz1 : ∀ x ∈ ids, x.size ≤ maxLen)
    (h1 : Strs w a1 n (Pl.get ids)) (h2 : Strs w a2 nl (Pl.get listed)) :
    Calls Try.prog 5 #[.slice a1 n c1, .slice a2 nl c2] w fun e w' => e = .returned (.bool true) ∧ Below w.heap.size w w' := by
  have Z1 : Hid (a1 = none → n = 0 ∧ c1 = 0) := z1
  have Z2 : Hid (a2 = none → nl = 0 ∧ c2 = 0) := z2
  have HZ : Hid (∀ x ∈ ids, x.size ≤ maxLen) := hz1
  clear z1 z2 hz1
  go_enter Try.func5, Try.ntmps5
  go_wp2_with fail
  refine (zzBytes14 a1 a2 n nl c1 c2 _ _ _ m1 m2 h1 h2).mono ?_
  rintro e w' ⟨⟨r, rfl⟩, rfl⟩
  cases r with
  | false =>
    go_wp2_with fail
    go_ret
    exact ⟨rfl, Below.refl _ _⟩
  | true =>
    by_cases n1 : n ≤ 4096
    · by_cases n2 : nl ≤ 4096
      · go_wp2_with fail
        refine (within_any a1 a2 n nl c1 c2 _ _ _ n1 n2 h1 h2).mono ?_
        rintro e w' ⟨⟨r, rfl⟩, rfl⟩
        cases r with
        | false =>
          go_wp2_with fail
          go_ret
          exact ⟨rfl, Below.refl _ _⟩
        | true =>
          go_wp2_with fail
          refine (sortedUp_any a1 n c1 _ _ n1 h1).mono ?_
          rintro e w1 ⟨⟨r, rfl, hr⟩, hb1⟩
          cases r with
          | false =>
            go_wp2_with fail
            go_ret
            exact ⟨rfl, hb1⟩
          | true =>
            have u1 := up_of ids (by rw [← HN.out]; exact hr rfl)
            have k1 := h1.below hb1
            have k2 := h2.below hb1
            clear hr h1 h2
            go_wp2_with fail
            refine (sortedUp_any a2 nl c2 _ _ n2 k2).mono ?_
            rintro e w2 ⟨⟨r, rfl, hr⟩, hb2⟩
            have b2 := hb1.trans (hb2.mono hb1.size)
            cases r with
            | false =>
              go_wp2_with fail
              go_ret
              exact ⟨rfl, b2⟩
            | true =>
              have u2 := up_of listed (by rw [← HL.out]; exact hr rfl)
              have h1 := k1.below hb2
              have h2 := k2.below hb2
              clear hr k1 k2 hb1 hb2
              go_wp2_with fail
              refine (clone_any a1 n c1 _ _ n1 Z1.out h1).mono ?_
              rintro e w3 ⟨a3, c3, rfl, l3, s3, hb3⟩
              have b3 := b2.trans (hb3.mono b2.size)
              have k2 := h2.below hb3
              clear b2 h1 h2 hb3
              go_wp2_with fail
              refine (clone_any a2 nl c2 _ _ n2 Z2.out k2).mono ?_
              rintro e w4 ⟨a4, c4, rfl, l4, s4, hb4⟩
              have b4 := b3.trans (hb4.mono b3.size)
              have s3' := s3.below hb4
              clear b3 k2 hb4 s3
              go_wp2_with (go_at_call 10; go_in)
              refine (unlisted_n a3 a4 c3 c4 n nl ids listed HN.out HL.out _ n1 n2 l4 s3' s4 u1 u2 HZ.out).mono ?_
              rintro e w5 ⟨⟨a5, c5, nd, rfl, HD, l5, ld, s5⟩, hb5⟩
              have b5 := b4.trans (hb5.mono b4.size)
              have t3 := s3'.below hb5
              have t4 := s4.below hb5
              clear b4 s3' s4 hb5 m1 m2 Z1 Z2
              go_wp2_with (go_at_call 10; go_in)
              refine (unlisted_n a3 a5 c3 c5 n nd ids (Pl.diff ids listed) HN.out HD.out _ n1 (by omega) l5 t3 s5 u1 (u1.filter _) HZ.out).mono ?_
              rintro e w6 ⟨⟨a6, c6, np, rfl, HP, l6, lp, s6⟩, hb6⟩
              have b6 := b5.trans (hb6.mono b5.size)
              have s5' := s5.below hb6
              have t3' := t3.below hb6
              clear b5 s5 t3 hb6 t4
              have hsum : ((nd : Int) + (np : Int) != (n : Int)) = false := by
                have := halves ids listed
                rw [← HD.out, ← HP.out, ← HN.out] at this
                rw [bne_eq_false_iff_eq]; omega
              go_wp2_with fail
              refine (merge_n a5 a6 c5 c6 n nd np ids listed HN.out HD.out HP.out _ n1 u1 HZ.out s5' s6).mono ?_
              rintro e w7 ⟨⟨a7, c7, rfl, s7⟩, hb7⟩
              have b7 := b6.trans (hb7.mono b6.size)
              have t3 := t3'.below hb7
              clear b6 hb7 s5' s6 t3'
              go_wp2_with fail
              refine (same_any a7 a3 n c7 c3 _ _ _ n1 s7 t3 (fun _ _ => rfl)).mono ?_
              rintro e w8 ⟨rfl, hb8⟩
              go_wp2_with fail
              go_ret
              exact ⟨rfl, b7.trans (hb8.mono b7.size)⟩
      · go_wp2_with fail
        go_ret
        exact ⟨rfl, Below.refl _ _⟩
    · go_wp2_with fail
      go_ret
      exact ⟨rfl, Below.refl _ _⟩
end Go.Proofs.Qxb6606080a
