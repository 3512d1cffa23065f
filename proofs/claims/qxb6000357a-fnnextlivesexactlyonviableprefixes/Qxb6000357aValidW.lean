import Derived.Test.Qxb6000357aValid
namespace Go.Proofs.Qxb6000357a
open Go.RowKit
set_option linter.unusedVariables false

set_option maxHeartbeats 4000000 in
set_option maxRecDepth 100000 in
theorem valid_any (s : ByteArray) (p : Bool) (w : World) (hs : s.size ≤ 65536) :
    Calls Try.prog 13 #[.string s, .bool p] w fun e w' => e = .returned (.bool (valid (numL s p))) ∧ w = w' := by
  obtain ⟨n, hn⟩ : ∃ n, n = (numL s p).length := ⟨_, rfl⟩
  have hnb : n ≤ 65537 := by rw [hn, numL_length]; split <;> omega
  have HN : Hid (n = (numL s p).length) := hn
  have HNP : Hid (n = s.size + if p = true then 1 else 0) := by rw [Hid, hn, numL_length]
  clear hn
  obtain ⟨l, hl⟩ : ∃ l, l = numL s p := ⟨_, rfl⟩
  have HL : Hid (l = numL s p) := hl
  rw [← hl]
  clear hl
  have HG : Hid (∀ i, gAt s p i = l.getD i 48) := by rw [HL.out]; exact fun _ => rfl
  have HLN : Hid (l.length = n) := by rw [HL.out]; exact HN.out.symm
  have HBD : Hid (∀ i, 0 ≤ gAt s p i ∧ gAt s p i ≤ 255) := numL_bd s p
  go_enter Try.func13, Try.ntmps13
  go_upto_if 11 with fail
  go_cut [5] (fun v5 wc => v5 = .int .i64 (n : Int) ∧ wc = w)
  case first =>
    cases p
    · go_wp2
      go_meet
      case rel => exact ⟨by have := HNP.out; simp at this; rw [this], rfl⟩
    · go_wp2
      go_meet
      case rel => exact ⟨by have := HNP.out; simp at this; rw [this]; go_num, rfl⟩
  case rest =>
    obtain ⟨rfl, hw⟩ := hcut
    obtain rfl := hw.symm
    clear hw
    obtain ⟨b0, hb0⟩ : ∃ b0, b0 = decide (0 < n ∧ gAt s p 0 = 45) := ⟨_, rfl⟩
    have HB0 : Hid (b0 = decide (0 < n ∧ gAt s p 0 = 45)) := hb0
    clear hb0
    go_upto_region 5 with fail
    go_cut [23] (fun v23 wc => v23 = .bool b0 ∧ wc = w)
    case first =>
      by_cases h0 : 0 < n
      · have h0i : (0 : Int) < (n : Int) := by omega
        go_wp2_with fail
        refine (zzAt_zero s p _ hs).mono ?_
        rintro e w' ⟨rfl, hw⟩
        obtain rfl := hw
        go_wp2
        go_meet
        case rel => exact ⟨by rw [HB0.out]; simp [h0]; rfl, rfl⟩
      · have h0i : decide ((0 : Int) < (n : Int)) = false := decide_eq_false (by omega)
        go_wp2
        go_meet
        case rel => exact ⟨by rw [HB0.out]; simp [h0], rfl⟩
    case rest =>
      obtain ⟨rfl, hw⟩ := hcut
      obtain rfl := hw.symm
      clear hw
      go_upto_if 23 with fail
      go_cut [6] (fun v6 wc => ∃ k : Nat, v6 = .int .i64 (k : Int) ∧ k ≤ n ∧ Hid (valid l = vInt (l.drop k)) ∧ wc = w)
      case first =>
        cases b0
        · have HV : Hid (valid l = vInt (l.drop 0)) := st_pos (by rw [HLN.out, ← HG.out]; simpa using HB0.out.symm)
          go_wp2
          go_meet
          case rel => exact ⟨0, rfl, by omega, HV, rfl⟩
        · have hyes : 0 < n ∧ gAt s p 0 = 45 := by simpa using HB0.out.symm
          have HV : Hid (valid l = vInt (l.drop 1)) := st_neg (by rw [HLN.out, ← HG.out]; exact hyes)
          have h0 : 0 < n := hyes.1
          clear hyes
          go_wp2
          go_meet
          case rel => exact ⟨1, rfl, by omega, HV, rfl⟩
      case rest =>
        obtain ⟨k1, rfl, hk1, HV, hw⟩ := hcut
        obtain rfl := hw.symm
        clear hw HB0
        by_cases hk1n : k1 < n
        · have hk1i : (k1 : Int) < (n : Int) := by omega
          have hk1d : decide ((n : Int) ≤ (k1 : Int)) = false := decide_eq_false (by omega)
          go_wp2_with fail
          refine (zzAt_any s p k1 _ (by omega) hs).mono ?_
          rintro e w' ⟨rfl, hw⟩
          obtain rfl := hw
          go_upto_if 33 with fail
          go_cut [6] (fun v6 wc => ∃ k : Nat, v6 = .int .i64 (k : Int) ∧ k ≤ n ∧ Hid (valid l = vFrac (l.drop k)) ∧ wc = w)
          case first =>
            by_cases h48 : gAt s p k1 = 48
            · have hb : (gAt s p k1 == 48) = true := beq_iff_eq.2 h48
              have HV2 : Hid (valid l = vFrac (l.drop (k1 + 1))) := by rw [Hid, HV.out, int_zero (by rw [HLN.out]; exact hk1n) (by rw [← HG.out]; exact h48)]
              clear h48
              go_wp2
              go_meet
              case rel => exact ⟨k1 + 1, by go_num, by omega, HV2, rfl⟩
            · have hb : (gAt s p k1 == 48) = false := beq_eq_false_iff_ne.2 h48
              have H48 : Hid (l.getD k1 48 ≠ 48) := by rw [← HG.out]; exact h48
              clear h48
              go_wp2_with fail
              refine (zzAt_any s p k1 _ (by omega) hs).mono ?_
              rintro e w' ⟨rfl, hw⟩
              obtain rfl := hw
              go_wp2_with fail
              refine (zzDigit_w (gAt s p k1) _).mono ?_
              rintro e w' ⟨rfl, hw⟩
              obtain rfl := hw
              cases hdk : dig (gAt s p k1)
              · have HF : Hid (valid l = false) := by rw [Hid, HV.out, int_no (by rw [HLN.out]; exact hk1n) H48.out (by rw [← HG.out]; exact hdk)]
                clear hdk
                go_wp2
                go_ret
                exact ⟨by rw [HF.out]; rfl, rfl⟩
              · have HI : Hid (vInt (l.drop k1) = vFrac (dropDig (l.drop (k1 + 1)))) := int_dig (by rw [HLN.out]; exact hk1n) H48.out (by rw [← HG.out]; exact hdk)
                clear hdk
                go_wp2_with fail
                go_loop [6] (fun v6 => ∃ k : Nat, v6 = .int .i64 (k : Int) ∧ k ≤ n ∧ k1 + 1 ≤ k ∧ Hid (DRel l (k1 + 1) k)) (fun v6 => n - (intOf v6).toNat)
                case atStart => exact ⟨k1 + 1, by go_num, by omega, by omega, DRel.start l _ (by have := HLN.out; omega)⟩
                case round =>
                  obtain ⟨k, rfl, hkn, hsk, HDR⟩ := hrel
                  by_cases hk : k < n
                  · have hki : (k : Int) < (n : Int) := by omega
                    go_wp2_with fail
                    refine (zzAt_any s p k _ (by omega) hs).mono ?_
                    rintro e w' ⟨rfl, hw⟩
                    obtain rfl := hw
                    go_wp2_with fail
                    refine (zzDigit_w (gAt s p k) _).mono ?_
                    rintro e w' ⟨rfl, hw⟩
                    obtain rfl := hw
                    cases hdk : dig (gAt s p k)
                    · have HST : Hid (k < l.length → dig (l.getD k 48) = false) := fun _ => by rw [← HG.out]; exact hdk
                      clear hdk
                      have HDN := HDR.out.done HST.out
                      have HDN1 : Hid (dropDig (l.drop (k1 + 1)) = l.drop k) := HDN.1
                      have HDN2 : Hid (k = k1 + 1 → firstDig (l.drop (k1 + 1)) = false) := HDN.2
                      have HDN3 : Hid (k1 + 1 < k → firstDig (l.drop (k1 + 1)) = true) := HDR.out.2.2.2
                      clear HDN HST HDR
                      go_wp2
                      go_meet
                      case rel => exact ⟨k, rfl, hkn, by rw [Hid, HV.out, HI.out, HDN1.out], rfl⟩
                    · have HDR2 : Hid (DRel l (k1 + 1) (k + 1)) := HDR.out.step (by have := HLN.out; omega) (by rw [← HG.out]; exact hdk)
                      clear hdk
                      go_wp2
                      go_round
                      case rel => exact ⟨k + 1, by go_num, by omega, by omega, HDR2⟩
                      case measure => simp [intOf]; omega
                  · have hki : decide ((k : Int) < (n : Int)) = false := decide_eq_false (by omega)
                    have HST : Hid (k < l.length → dig (l.getD k 48) = false) := fun h => by have := HLN.out; omega
                    have HDN := HDR.out.done HST.out
                    have HDN1 : Hid (dropDig (l.drop (k1 + 1)) = l.drop k) := HDN.1
                    have HDN2 : Hid (k = k1 + 1 → firstDig (l.drop (k1 + 1)) = false) := HDN.2
                    have HDN3 : Hid (k1 + 1 < k → firstDig (l.drop (k1 + 1)) = true) := HDR.out.2.2.2
                    clear HDN HST HDR
                    go_wp2
                    go_meet
                    case rel => exact ⟨k, rfl, hkn, by rw [Hid, HV.out, HI.out, HDN1.out], rfl⟩

          case rest =>
            obtain ⟨k2, rfl, hk2, HV, hw⟩ := hcut
            obtain rfl := hw.symm
            clear hw
            obtain ⟨b1, hb1⟩ : ∃ b1, b1 = decide (k2 < n ∧ gAt s p k2 = 46) := ⟨_, rfl⟩
            have HB1 : Hid (b1 = decide (k2 < n ∧ gAt s p k2 = 46)) := hb1
            clear hb1
            go_upto_region 16 with fail
            go_cut [64] (fun v wc => v = .bool b1 ∧ wc = w)
            case first =>
              by_cases h0 : k2 < n
              · have h0i : (k2 : Int) < (n : Int) := by omega
                go_wp2_with fail
                refine (zzAt_any s p k2 _ (by omega) hs).mono ?_
                rintro e w' ⟨rfl, hw⟩
                obtain rfl := hw
                go_wp2
                go_meet
                case rel => exact ⟨by rw [HB1.out]; simp [h0]; rfl, rfl⟩
              · have h0i : decide ((k2 : Int) < (n : Int)) = false := decide_eq_false (by omega)
                go_wp2
                go_meet
                case rel => exact ⟨by rw [HB1.out]; simp [h0], rfl⟩
            case rest =>
              obtain ⟨rfl, hw⟩ := hcut
              obtain rfl := hw.symm
              clear hw
              go_upto_if 64 with fail
              go_cut [6] (fun v6 wc => ∃ k : Nat, v6 = .int .i64 (k : Int) ∧ k ≤ n ∧ Hid (valid l = vTail (l.drop k)) ∧ wc = w)
              case first =>
                cases b1
                · have HV2 : Hid (valid l = vTail (l.drop k2)) := by rw [Hid, HV.out]; exact frac_no (by rw [HLN.out, ← HG.out]; simpa using HB1.out.symm)
                  go_wp2
                  go_meet
                  case rel => exact ⟨k2, rfl, hk2, HV2, rfl⟩
                · have hyes : k2 < n ∧ gAt s p k2 = 46 := by simpa using HB1.out.symm
                  obtain ⟨k3, hk3⟩ : ∃ k3, k3 = k2 + 1 := ⟨_, rfl⟩
                  have HK3 : Hid (k3 = k2 + 1) := hk3
                  have hk3n : k3 ≤ n := by omega
                  have hk2n : k2 < n := hyes.1
                  have HI : Hid (vFrac (l.drop k2) = (firstDig (l.drop k3) && vTail (dropDig (l.drop k3)))) := by rw [Hid, hk3]; exact frac_yes (by rw [HLN.out, ← HG.out]; exact hyes)
                  have HK3i : Hid ((k2 : Int) + 1 = (k3 : Int)) := by rw [Hid, hk3]; rfl
                  clear hyes hk3
                  go_upto_region 18 with fail
                  rw [HK3i.out]
                  clear hk2n
                  go_wp2_with fail
                  go_loop [6] (fun v6 => ∃ k : Nat, v6 = .int .i64 (k : Int) ∧ k ≤ n ∧ k3 ≤ k ∧ Hid (DRel l (k3) k)) (fun v6 => n - (intOf v6).toNat)
                  case atStart => exact ⟨k3, by go_num, by omega, by omega, DRel.start l _ (by have := HLN.out; omega)⟩
                  case round =>
                    obtain ⟨k, rfl, hkn, hsk, HDR⟩ := hrel
                    by_cases hk : k < n
                    · have hki : (k : Int) < (n : Int) := by omega
                      go_wp2_with fail
                      refine (zzAt_any s p k _ (by omega) hs).mono ?_
                      rintro e w' ⟨rfl, hw⟩
                      obtain rfl := hw
                      go_wp2_with fail
                      refine (zzDigit_w (gAt s p k) _).mono ?_
                      rintro e w' ⟨rfl, hw⟩
                      obtain rfl := hw
                      cases hdk : dig (gAt s p k)
                      · have HST : Hid (k < l.length → dig (l.getD k 48) = false) := fun _ => by rw [← HG.out]; exact hdk
                        clear hdk
                        have HDN := HDR.out.done HST.out
                        have HDN1 : Hid (dropDig (l.drop (k3)) = l.drop k) := HDN.1
                        have HDN2 : Hid (k = k3 → firstDig (l.drop (k3)) = false) := HDN.2
                        have HDN3 : Hid (k3 < k → firstDig (l.drop (k3)) = true) := HDR.out.2.2.2
                        clear HDN HST HDR
                        by_cases hkj : k = k3
                        · have hb : ((k : Int) == (k3 : Int)) = true := beq_iff_eq.2 (by omega)
                          have HF : Hid (valid l = false) := by rw [Hid, HV.out, HI.out, HDN2.out hkj]; rfl
                          clear hkj
                          go_wp2
                          go_ret
                          exact ⟨by rw [HF.out]; rfl, rfl⟩
                        · have hb : ((k : Int) == (k3 : Int)) = false := beq_eq_false_iff_ne.2 (by omega)
                          have HF : Hid (valid l = vTail (l.drop k)) := by rw [Hid, HV.out, HI.out, HDN3.out (by omega), HDN1.out]; rfl
                          clear hkj
                          go_wp2
                          go_meet
                          case rel => exact ⟨k, rfl, hkn, HF, rfl⟩
                      · have HDR2 : Hid (DRel l (k3) (k + 1)) := HDR.out.step (by have := HLN.out; omega) (by rw [← HG.out]; exact hdk)
                        clear hdk
                        go_wp2
                        go_round
                        case rel => exact ⟨k + 1, by go_num, by omega, by omega, HDR2⟩
                        case measure => simp [intOf]; omega
                    · have hki : decide ((k : Int) < (n : Int)) = false := decide_eq_false (by omega)
                      have HST : Hid (k < l.length → dig (l.getD k 48) = false) := fun h => by have := HLN.out; omega
                      have HDN := HDR.out.done HST.out
                      have HDN1 : Hid (dropDig (l.drop (k3)) = l.drop k) := HDN.1
                      have HDN2 : Hid (k = k3 → firstDig (l.drop (k3)) = false) := HDN.2
                      have HDN3 : Hid (k3 < k → firstDig (l.drop (k3)) = true) := HDR.out.2.2.2
                      clear HDN HST HDR
                      by_cases hkj : k = k3
                      · have hb : ((k : Int) == (k3 : Int)) = true := beq_iff_eq.2 (by omega)
                        have HF : Hid (valid l = false) := by rw [Hid, HV.out, HI.out, HDN2.out hkj]; rfl
                        clear hkj
                        go_wp2
                        go_ret
                        exact ⟨by rw [HF.out]; rfl, rfl⟩
                      · have hb : ((k : Int) == (k3 : Int)) = false := beq_eq_false_iff_ne.2 (by omega)
                        have HF : Hid (valid l = vTail (l.drop k)) := by rw [Hid, HV.out, HI.out, HDN3.out (by omega), HDN1.out]; rfl
                        clear hkj
                        go_wp2
                        go_meet
                        case rel => exact ⟨k, rfl, hkn, HF, rfl⟩

              case rest =>
                obtain ⟨k4, rfl, hk4, HV, hw⟩ := hcut
                obtain rfl := hw.symm
                clear hw HB1
                obtain ⟨b2, hb2⟩ : ∃ b2, b2 = decide (k4 < n ∧ isE (gAt s p k4) = true) := ⟨_, rfl⟩
                have HB2 : Hid (b2 = decide (k4 < n ∧ isE (gAt s p k4) = true)) := hb2
                clear hb2
                go_upto_region 23 with fail
                go_cut [99] (fun v wc => v = .bool b2 ∧ wc = w)
                case first =>
                  by_cases h0 : k4 < n
                  · have h0i : (k4 : Int) < (n : Int) := by omega
                    go_wp2_with fail
                    refine (zzAt_any s p k4 _ (by omega) hs).mono ?_
                    rintro e w' ⟨rfl, hw⟩
                    obtain rfl := hw
                    by_cases h101 : gAt s p k4 = 101
                    · have hb : (gAt s p k4 == 101) = true := beq_iff_eq.2 h101
                      have HBB : Hid (b2 = true) := by rw [Hid, HB2.out]; simp [h0, isE, h101]
                      clear h101
                      go_wp2
                      go_meet
                      case rel => exact ⟨by rw [HBB.out], rfl⟩
                    · have hb : (gAt s p k4 == 101) = false := beq_eq_false_iff_ne.2 h101
                      have HBB : Hid (b2 = (gAt s p k4 == 69)) := by rw [Hid, HB2.out]; simp [h0, isE, h101]; rfl
                      clear h101
                      go_wp2_with fail
                      refine (zzAt_any s p k4 _ (by omega) hs).mono ?_
                      rintro e w' ⟨rfl, hw⟩
                      obtain rfl := hw
                      go_wp2
                      go_meet
                      case rel => exact ⟨by rw [HBB.out], rfl⟩
                  · have h0i : decide ((k4 : Int) < (n : Int)) = false := decide_eq_false (by omega)
                    go_wp2
                    go_meet
                    case rel => exact ⟨by rw [HB2.out]; simp [h0], rfl⟩
                case rest =>
                  obtain ⟨rfl, hw⟩ := hcut
                  obtain rfl := hw.symm
                  clear hw
                  go_upto_if 99 with fail
                  go_cut [6] (fun v6 wc => ∃ k : Nat, v6 = .int .i64 (k : Int) ∧ k ≤ n ∧ Hid (valid l = decide (k = n)) ∧ wc = w)
                  case first =>
                    cases b2
                    · have HV2 : Hid (valid l = decide (k4 = n)) := by rw [Hid, HV.out, tail_no (by rw [HLN.out]; exact hk4) (by rw [HLN.out, ← HG.out]; simpa using HB2.out.symm), HLN.out]
                      go_wp2
                      go_meet
                      case rel => exact ⟨k4, rfl, hk4, HV2, rfl⟩
                    · have hyes : k4 < n ∧ isE (gAt s p k4) = true := by simpa using HB2.out.symm
                      obtain ⟨k5, hk5⟩ : ∃ k5, k5 = k4 + 1 := ⟨_, rfl⟩
                      have hk5n : k5 ≤ n := by omega
                      have hk4n : k4 < n := hyes.1
                      have HV2 : Hid (valid l = vExp1 (l.drop k5)) := by rw [Hid, HV.out, hk5]; exact tail_yes (by rw [HLN.out, ← HG.out]; exact hyes)
                      have HK5i : Hid ((k4 : Int) + 1 = (k5 : Int)) := by rw [Hid, hk5]; rfl
                      clear hyes hk5 HV
                      obtain ⟨b3, hb3⟩ : ∃ b3, b3 = decide (k5 < n ∧ (gAt s p k5 = 43 ∨ gAt s p k5 = 45)) := ⟨_, rfl⟩
                      have HB3 : Hid (b3 = decide (k5 < n ∧ (gAt s p k5 = 43 ∨ gAt s p k5 = 45))) := hb3
                      clear hb3
                      go_upto_region 25 with fail
                      rw [HK5i.out]
                      clear hk4n
                      go_cut [118] (fun v wc => v = .bool b3 ∧ wc = w)
                      case first =>
                        by_cases h0 : k5 < n
                        · have h0i : (k5 : Int) < (n : Int) := by omega
                          go_wp2_with fail
                          refine (zzAt_any s p k5 _ (by omega) hs).mono ?_
                          rintro e w' ⟨rfl, hw⟩
                          obtain rfl := hw
                          by_cases h43 : gAt s p k5 = 43
                          · have hb : (gAt s p k5 == 43) = true := beq_iff_eq.2 h43
                            have HBB : Hid (b3 = true) := by rw [Hid, HB3.out]; simp [h0, h43]
                            clear h43
                            go_wp2
                            go_meet
                            case rel => exact ⟨by rw [HBB.out], rfl⟩
                          · have hb : (gAt s p k5 == 43) = false := beq_eq_false_iff_ne.2 h43
                            have HBB : Hid (b3 = (gAt s p k5 == 45)) := by rw [Hid, HB3.out]; simp [h0, h43]; rfl
                            clear h43
                            go_wp2_with fail
                            refine (zzAt_any s p k5 _ (by omega) hs).mono ?_
                            rintro e w' ⟨rfl, hw⟩
                            obtain rfl := hw
                            go_wp2
                            go_meet
                            case rel => exact ⟨by rw [HBB.out], rfl⟩
                        · have h0i : decide ((k5 : Int) < (n : Int)) = false := decide_eq_false (by omega)
                          go_wp2
                          go_meet
                          case rel => exact ⟨by rw [HB3.out]; simp [h0], rfl⟩
                      case rest =>
                        obtain ⟨rfl, hw⟩ := hcut
                        obtain rfl := hw.symm
                        clear hw
                        go_upto_if 118 with fail
                        go_cut [6] (fun v6 wc => ∃ k : Nat, v6 = .int .i64 (k : Int) ∧ k ≤ n ∧ Hid (valid l = vExp2 (l.drop k)) ∧ wc = w)
                        case first =>
                          cases b3
                          · have HV3 : Hid (valid l = vExp2 (l.drop k5)) := by rw [Hid, HV2.out]; exact sgn_no (by rw [HLN.out, ← HG.out]; simpa using HB3.out.symm)
                            go_wp2
                            go_meet
                            case rel => exact ⟨k5, rfl, hk5n, HV3, rfl⟩
                          · have hyes : k5 < n ∧ (gAt s p k5 = 43 ∨ gAt s p k5 = 45) := by simpa using HB3.out.symm
                            have HV3 : Hid (valid l = vExp2 (l.drop (k5 + 1))) := by rw [Hid, HV2.out]; exact sgn_yes (by rw [HLN.out, ← HG.out]; exact hyes)
                            have hk5l : k5 < n := hyes.1
                            clear hyes
                            go_wp2
                            go_meet
                            case rel => exact ⟨k5 + 1, by go_num, by omega, HV3, rfl⟩
                        case rest =>
                          obtain ⟨k6, rfl, hk6, HV, hw⟩ := hcut
                          obtain rfl := hw.symm
                          clear hw HB3 HB2 HV2
                          go_wp2_with fail
                          go_loop [6] (fun v6 => ∃ k : Nat, v6 = .int .i64 (k : Int) ∧ k ≤ n ∧ k6 ≤ k ∧ Hid (DRel l (k6) k)) (fun v6 => n - (intOf v6).toNat)
                          case atStart => exact ⟨k6, by go_num, by omega, by omega, DRel.start l _ (by have := HLN.out; omega)⟩
                          case round =>
                            obtain ⟨k, rfl, hkn, hsk, HDR⟩ := hrel
                            by_cases hk : k < n
                            · have hki : (k : Int) < (n : Int) := by omega
                              go_wp2_with fail
                              refine (zzAt_any s p k _ (by omega) hs).mono ?_
                              rintro e w' ⟨rfl, hw⟩
                              obtain rfl := hw
                              go_wp2_with fail
                              refine (zzDigit_w (gAt s p k) _).mono ?_
                              rintro e w' ⟨rfl, hw⟩
                              obtain rfl := hw
                              cases hdk : dig (gAt s p k)
                              · have HST : Hid (k < l.length → dig (l.getD k 48) = false) := fun _ => by rw [← HG.out]; exact hdk
                                clear hdk
                                have HDN := HDR.out.done HST.out
                                have HDN1 : Hid (dropDig (l.drop (k6)) = l.drop k) := HDN.1
                                have HDN2 : Hid (k = k6 → firstDig (l.drop (k6)) = false) := HDN.2
                                have HDN3 : Hid (k6 < k → firstDig (l.drop (k6)) = true) := HDR.out.2.2.2
                                clear HDN HST HDR
                                by_cases hkj : k = k6
                                · have hb : ((k : Int) == (k6 : Int)) = true := beq_iff_eq.2 (by omega)
                                  have HF : Hid (valid l = false) := by rw [Hid, HV.out, exp2_none (HDN2.out hkj)]
                                  clear hkj
                                  go_wp2
                                  go_ret
                                  exact ⟨by rw [HF.out]; rfl, rfl⟩
                                · have hb : ((k : Int) == (k6 : Int)) = false := beq_eq_false_iff_ne.2 (by omega)
                                  have HF : Hid (valid l = decide (k = n)) := by rw [Hid, HV.out, exp2_some (by have := HLN.out; omega) (HDN3.out (by omega)) HDN1.out, HLN.out]
                                  clear hkj
                                  go_wp2
                                  go_meet
                                  case rel => exact ⟨k, rfl, hkn, HF, rfl⟩
                              · have HDR2 : Hid (DRel l (k6) (k + 1)) := HDR.out.step (by have := HLN.out; omega) (by rw [← HG.out]; exact hdk)
                                clear hdk
                                go_wp2
                                go_round
                                case rel => exact ⟨k + 1, by go_num, by omega, by omega, HDR2⟩
                                case measure => simp [intOf]; omega
                            · have hki : decide ((k : Int) < (n : Int)) = false := decide_eq_false (by omega)
                              have HST : Hid (k < l.length → dig (l.getD k 48) = false) := fun h => by have := HLN.out; omega
                              have HDN := HDR.out.done HST.out
                              have HDN1 : Hid (dropDig (l.drop (k6)) = l.drop k) := HDN.1
                              have HDN2 : Hid (k = k6 → firstDig (l.drop (k6)) = false) := HDN.2
                              have HDN3 : Hid (k6 < k → firstDig (l.drop (k6)) = true) := HDR.out.2.2.2
                              clear HDN HST HDR
                              by_cases hkj : k = k6
                              · have hb : ((k : Int) == (k6 : Int)) = true := beq_iff_eq.2 (by omega)
                                have HF : Hid (valid l = false) := by rw [Hid, HV.out, exp2_none (HDN2.out hkj)]
                                clear hkj
                                go_wp2
                                go_ret
                                exact ⟨by rw [HF.out]; rfl, rfl⟩
                              · have hb : ((k : Int) == (k6 : Int)) = false := beq_eq_false_iff_ne.2 (by omega)
                                have HF : Hid (valid l = decide (k = n)) := by rw [Hid, HV.out, exp2_some (by have := HLN.out; omega) (HDN3.out (by omega)) HDN1.out, HLN.out]
                                clear hkj
                                go_wp2
                                go_meet
                                case rel => exact ⟨k, rfl, hkn, HF, rfl⟩

                  case rest =>
                    obtain ⟨k7, rfl, hk7, HV, hw⟩ := hcut
                    obtain rfl := hw.symm
                    clear hw
                    have HE : Hid (((k7 : Int) == (n : Int)) = decide (k7 = n)) := by
                      by_cases e : k7 = n
                      · subst e; simp [Hid]
                      · rw [Hid, decide_eq_false e]; exact beq_eq_false_iff_ne.2 (by omega)
                    go_wp2
                    go_ret
                    exact ⟨by rw [HV.out, ← HE.out]; rfl, rfl⟩
        · have hk1d : (n : Int) ≤ (k1 : Int) := by omega
          have HF : Hid (valid l = false) := by rw [Hid, HV.out]; exact int_none (by rw [HLN.out]; exact hk1n)
          go_wp2
          go_ret
          exact ⟨by rw [HF.out]; rfl, rfl⟩

end Go.Proofs.Qxb6000357a
