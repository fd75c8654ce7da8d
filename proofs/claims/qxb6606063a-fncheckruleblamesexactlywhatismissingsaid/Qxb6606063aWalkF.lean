import Derived.Test.Qxb6606063aWalkE
namespace Go.Proofs.Qxb6606063a
open Go.RowKit
set_option linter.unusedVariables false

theorem eq_of_toList {x y : ByteArray} (h : (x.toList == y.toList) = true) : x = y := by
  have h := eq_of_beq h
  rw [Lib.toList_data, Lib.toList_data] at h
  cases x; cases y
  congr 1
  exact Array.ext' h

theorem idx_zero {F : Nat → ByteArray} {n : Nat} {f : ByteArray} {r : Int} (h : IdxPost F n f r) (h0 : 0 < n) (hf : F 0 = f) : r = 0 := by
  rcases h with ⟨j, hj, rfl, hm, hno⟩ | ⟨_, hno⟩
  · by_cases e : j = 0
    · subst e; rfl
    · have := hno 0 (by omega)
      rw [hf] at this; simp at this
  · have := hno 0 h0
    rw [hf] at this; simp at this

theorem idx_le {F : Nat → ByteArray} {n : Nat} {G R : ByteArray} {r1 r2 : Int} (h1 : IdxPost F n G r1) (h2 : IdxPost F n R r2) (hex : ∃ i, i < n ∧ F i = R) (hord : ∀ i, i < n → F i = R → ∃ j, j < i ∧ F j = G) : r1 ≤ r2 := by
  rcases h2 with ⟨j, hj, rfl, hm, hno⟩ | ⟨_, hno⟩
  · obtain ⟨j', hlt, hG⟩ := hord j hj (eq_of_toList hm)
    rcases h1 with ⟨i, hi, rfl, hmi, hnoi⟩ | ⟨_, hnoi⟩
    · by_cases e : i ≤ j'
      · omega
      · have := hnoi j' (by omega)
        rw [hG] at this; simp at this
    · have := hnoi j' (by omega)
      rw [hG] at this; simp at this
  · obtain ⟨i, hi, hR⟩ := hex
    have := hno i hi
    rw [hR] at this; simp at this

set_option maxRecDepth 100000 in
set_option maxHeartbeats 4000000 in
theorem top_any (at0 : ByteArray) (a1 a2 a3 a4 a5 : Option Addr) (n1 n2 n3 n4 n5 c1 c2 c3 c4 c5 : Nat) (S1 S2 S3 S4 S5 : Nat → ByteArray) (cw : Bool) (w : World)
    (hs0 : at0.size ≤ 9223372036854775807) (m1 : n1 ≤ 9223372036854775807) (m2 : n2 ≤ 9223372036854775807) (m3 : n3 ≤ 9223372036854775807) (m4 : n4 ≤ 9223372036854775807) (m5 : n5 ≤ 9223372036854775807)
    (h1 : Strs w a1 n1 S1) (h2 : Strs w a2 n2 S2) (h3 : Strs w a3 n3 S3) (h4 : Strs w a4 n4 S4) (h5 : Strs w a5 n5 S5) :
    Calls Try.prog 3 #[.string at0, .slice a1 n1 c1, .slice a2 n2 c2, .slice a3 n3 c3, .slice a4 n4 c4, .slice a5 n5 c5, .bool cw] w fun e w' =>
      e = .returned (.bool true) ∧ Below w.heap.size w w' := by
  go_enter Try.func3, Try.ntmps3
  go_wp2_with fail
  refine (zzBytes_any at0 a1 a2 a3 a4 a5 n1 n2 n3 n4 n5 c1 c2 c3 c4 c5 S1 S2 S3 S4 S5 cw _ hs0 m1 m2 m3 m4 m5 h1 h2 h3 h4 h5).mono ?_
  rintro e w' ⟨rfl | ⟨rfl, hat, g1, g2, g3, g4, g5, q1', q2', q3', q4', q5'⟩, rfl⟩
  · go_wp2_with fail
    go_ret
    exact ⟨rfl, Below.refl _ _⟩
  · go_wp2_with fail
    refine (oversized_any at0 a1 a2 a3 a4 a5 n1 n2 n3 n4 n5 c1 c2 c3 c4 c5 S1 S2 S3 S4 S5 _ hat m1 m2 m3 m4 m5 h1 h2 h3 h4 h5 g1 g2 g3 g4 g5).mono ?_
    rintro e w' ⟨⟨r, rfl⟩, rfl⟩
    clear h1 h2 h3 h4 h5
    cases r with
    | true =>
      go_wp2_with fail
      go_ret
      exact ⟨rfl, Below.refl _ _⟩
    | false =>
      go_wp2_with (first
        | (go_at_call 9; refine (rule_any _ _ _ _ _ _ _ _ _ _ _ _ _ _ _ _).mono ?_; rintro e w1 ⟨rfl, hb1⟩)
        | (go_at_call 8; go_in))
      refine (check_any at0 a1 a2 a3 a4 a5 n1 n2 n3 n4 n5 c1 c2 c3 c4 c5 cw _ hat q1' q2' q3' q4' q5').mono ?_
      rintro e w2 ⟨v, L, W1, rfl, hbW, hA⟩
      have LW := law (dst at0) n1 n2 n3 n4 n5 cw
      rw [fs_eq] at hA
      obtain ⟨a, cap, hv, hE, hD⟩ := hA.form
      have HB : Below w'.heap.size w' w2 := by
        have k1 := (hb1.alloc hb1.size (.cells #[.slice a1 n1 c1, .slice a2 n2 c2, .slice a3 n3 c3, .slice a4 n4 c4, .slice a5 n5 c5] 28))
        have k2 := k1.trans (hbW.mono k1.size)
        exact k2.trans (hA.bel.mono k2.size)
      clear hA hbW hb1
      have DS := dst at0
      obtain ⟨V, hV⟩ : ∃ V, V = at0 ++ bV := ⟨_, rfl⟩
      obtain ⟨P, hP⟩ : ∃ P, P = at0 ++ bP := ⟨_, rfl⟩
      obtain ⟨G, hG⟩ : ∃ G, G = at0 ++ bG := ⟨_, rfl⟩
      obtain ⟨R, hR⟩ : ∃ R, R = at0 ++ bR := ⟨_, rfl⟩
      rw [← hV, ← hP, ← hG, ← hR] at LW hv hE hD DS
      have HV : Hid (V = at0 ++ bV) := hV
      have HP : Hid (P = at0 ++ bP) := hP
      have HG : Hid (G = at0 ++ bG) := hG
      have HR : Hid (R = at0 ++ bR) := hR
      clear hV hP hG hR
      generalize fs V P at0 G R n1 n2 n3 n4 n5 cw = FS at LW hv hE hD
      generalize fget FS = F at LW hE
      generalize FS.length = n at LW hv hE hD
      generalize dget L = D at hE hD
      subst hv
      obtain ⟨lV, lP, lA, lG, lR, hmem, hhd, hord, hexR, hfew⟩ := LW
      obtain ⟨tpv, tav, tap, tgv, tgp, tga, trv, trp, tra, trg⟩ := DS
      have HM : Hid (∀ i, i < n → F i = V ∨ F i = P ∨ F i = at0 ∨ F i = G ∨ F i = R) := hmem
      have HH : Hid (q1 n1 = true → 0 < n ∧ F 0 = V) := hhd
      have HO : Hid (q4 n2 n5 = true → q4 n3 n5 = true → ∀ i, i < n → F i = R → ∃ j, j < i ∧ F j = G) := hord
      have HX : Hid (q4 n3 n5 = true → ∃ i, i < n ∧ F i = R) := hexR
      have HD : Hid (∀ i, i < n → (D i).toList.isEmpty = false) := hD
      clear hmem hhd hord hexR hD g1 g2 g3 g4 g5
      go_upto_region 7 with (fail)
      go_cut [15, 16, 17] from 54 to 69 (fun v15 v16 v wc => w2 = wc ∧ v15 = .slice a n cap ∧ v16 = .bool (decide (0 < n5)) ∧ v = .bool (qN n2 n3 n4))
      case first =>
        by_cases e2 : (0 : Int) < (n2 : Int)
        · go_wp2
          go_meet
          case rel => exact ⟨rfl, rfl, by simp, by simp [qN, show 0 < n2 by omega]⟩
        · obtain rfl : n2 = 0 := by omega
          by_cases e3 : (0 : Int) < (n3 : Int)
          · go_wp2
            go_meet
            case rel => exact ⟨rfl, rfl, by simp, by simp [qN, show 0 < n3 by omega]⟩
          · obtain rfl : n3 = 0 := by omega
            go_wp2
            go_meet
            case rel => exact ⟨rfl, rfl, by simp, by simp [qN]⟩
      case rest =>
        obtain ⟨rfl, rfl, rfl, rfl⟩ := hcut
        go_upto_region 12 with (fail)
        go_cut [18, 19, 20, 21, 22] from 54 to 80 (fun v18 v19 v20 v21 v22 wc => w2 = wc ∧ v18 = .string V ∧ v19 = .string P ∧ v20 = .string G ∧ v21 = .string R ∧ v22 = .bool (q1 n1))
        case first =>
          go_wp2
          go_meet
          case rel => exact ⟨rfl, by rw [HV.out]; rfl, by rw [HP.out]; rfl, by rw [HG.out]; rfl, by rw [HR.out]; rfl, rfl⟩
        case rest =>
          obtain ⟨rfl, rfl, rfl, rfl, rfl, rfl⟩ := hcut
          go_upto_region 13 with (fail)
          go_cut [16, 23] from 54 to 85 (fun v16 v wc => w2 = wc ∧ v16 = .bool (decide (0 < n5)) ∧ v = .bool (q2 n5 cw))
          case first =>
            by_cases e5 : (0 : Int) < (n5 : Int)
            · go_wp2
              go_meet
              case rel => exact ⟨rfl, by simp [show 0 < n5 by omega], by simp [q2, show 0 < n5 by omega]⟩
            · obtain rfl : n5 = 0 := by omega
              go_wp2
              go_meet
              case rel => exact ⟨rfl, by simp, by simp [q2]⟩
          case rest =>
            obtain ⟨rfl, rfl, rfl⟩ := hcut
            go_upto_region 14 with (fail)
            go_cut [16, 24] from 54 to 92 (fun v16 v wc => w2 = wc ∧ v16 = .bool (decide (0 < n5)) ∧ v = .bool (q3 n2 n3 n4 n5 cw))
            case first =>
              by_cases e5 : (0 : Int) < (n5 : Int)
              · cases cw with
                | true =>
                  go_wp2
                  go_meet
                  case rel => exact ⟨rfl, by simp [show 0 < n5 by omega], by simp [q3, show 0 < n5 by omega]⟩
                | false =>
                  go_wp2
                  go_meet
                  case rel => exact ⟨rfl, by simp [show 0 < n5 by omega], by simp [q3]⟩
              · obtain rfl : n5 = 0 := by omega
                go_wp2
                go_meet
                case rel => exact ⟨rfl, by simp, by simp [q3]⟩
            case rest =>
              obtain ⟨rfl, rfl, rfl⟩ := hcut
              go_upto_region 15 with (fail)
              go_cut [16, 25] from 54 to 99 (fun v16 v wc => w2 = wc ∧ v16 = .bool (decide (0 < n5)) ∧ v = .bool (q4 n2 n5))
              case first =>
                by_cases e5 : (0 : Int) < (n5 : Int)
                · go_wp2
                  go_meet
                  case rel => exact ⟨rfl, by simp [show 0 < n5 by omega], by simp [q4, show n5 ≠ 0 by omega]⟩
                · obtain rfl : n5 = 0 := by omega
                  go_wp2
                  go_meet
                  case rel => exact ⟨rfl, by simp, by by_cases h : n2 = 0 <;> simp [q4, h]⟩
              case rest =>
                obtain ⟨rfl, rfl, rfl⟩ := hcut
                go_upto_region 16 with (fail)
                go_cut [16, 26] from 54 to 106 (fun v16 v wc => w2 = wc ∧ v16 = .bool (decide (0 < n5)) ∧ v = .bool (q4 n3 n5))
                case first =>
                  by_cases e5 : (0 : Int) < (n5 : Int)
                  · go_wp2
                    go_meet
                    case rel => exact ⟨rfl, by simp [show 0 < n5 by omega], by simp [q4, show n5 ≠ 0 by omega]⟩
                  · obtain rfl : n5 = 0 := by omega
                    go_wp2
                    go_meet
                    case rel => exact ⟨rfl, by simp, by by_cases h : n3 = 0 <;> simp [q4, h]⟩
                case rest =>
                  obtain ⟨rfl, rfl, rfl⟩ := hcut
                  clear HV HP HG HR
                  have hn3 : n ≤ 1048576 := by omega
                  go_wp2_with (go_at_call 10; refine (blamed_any _ _ _ F D _ _ _ hn3 hE).mono ?_; rintro e w' ⟨rfl, rfl⟩)
                  clear lV lP lA lG lR
                  go_loopg [27] n (fun g i wr => w' = wr ∧ ∃ k : Nat, k ≤ n ∧ g = n - k ∧ i = .int .i64 k)
                  case atStart => exact ⟨rfl, 0, Nat.zero_le _, rfl, rfl⟩
                  case round =>
                    obtain ⟨rfl, k, hk, rfl, rfl⟩ := hrel
                    by_cases hlt : k < n
                    · obtain ⟨g, rfl, hc1, hc2⟩ := hE k hlt
                      have hdk := HD.out k hlt
                      have hM := HM.out k hlt
                      clear hE HM HH HO HX HD
                      rcases hM with hF | hF | hF | hF | hF
                      all_goals
                        rw [hF] at hc1
                        clear hF
                        go_wp2
                        go_roundg (n - (k + 1))
                        case measure => omega
                        case rel => exact ⟨rfl, k + 1, by omega, rfl, by go_num⟩
                    · clear tpv tav tap tgv tgp tga trv trp tra trg HM HD
                      go_upto_region 27 with (fail)
                      go_cut [22, 186] from 107 to 186 (fun v22 v wc => w' = wc ∧ v22 = .bool (q1 n1) ∧ v = .bool false)
                      case first =>
                        cases hq : q1 n1 with
                        | true =>
                          go_wp2_with fail
                          refine (index_any _ _ _ F D _ _ hn3 hE).mono ?_
                          rintro e w3 ⟨⟨r, rfl, hI⟩, rfl⟩
                          have hr := idx_zero hI (HH.out hq).1 (HH.out hq).2
                          subst hr
                          go_wp2_with fail
                          go_meet
                          case rel => exact ⟨rfl, by rw [hq], rfl⟩
                        | false =>
                          go_wp2_with fail
                          go_meet
                          case rel => exact ⟨rfl, by rw [hq], rfl⟩
                      case rest =>
                        obtain ⟨rfl, rfl, rfl⟩ := hcut
                        cases h2 : q4 n2 n5 with
                        | false =>
                          go_wp2_with fail
                          go_ret
                          exact ⟨rfl, HB⟩
                        | true =>
                          cases h3 : q4 n3 n5 with
                          | false =>
                            go_wp2_with fail
                            go_ret
                            exact ⟨rfl, HB⟩
                          | true =>
                            go_wp2_with fail
                            refine (index_any _ _ _ F D _ _ hn3 hE).mono ?_
                            rintro e w3 ⟨⟨r1, rfl, hI1⟩, rfl⟩
                            go_wp2_with fail
                            refine (index_any _ _ _ F D _ _ hn3 hE).mono ?_
                            rintro e w4 ⟨⟨r2, rfl, hI2⟩, rfl⟩
                            have hle := idx_le hI1 hI2 (HX.out h3) (HO.out h2 h3)
                            clear hI1 hI2
                            go_wp2_with fail
                            go_ret
                            exact ⟨rfl, HB⟩
end Go.Proofs.Qxb6606063a
