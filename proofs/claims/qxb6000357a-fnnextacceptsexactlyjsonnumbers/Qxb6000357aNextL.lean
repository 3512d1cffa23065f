import Derived.Test.Qxb6000357aValidW
import Derived.Test.Qxb6000357aNextW
namespace Go.Proofs.Qxb6000357a
open Go.RowKit
set_option linter.unusedVariables false

theorem zzB11 (s : ByteArray) (w : World) (ht : s.size ≤ 1048576) :
    Calls Try.prog 11 #[.string s] w fun e w' => e = .returned (.bool true) ∧ w = w' := by
  go_enter Try.func11, Try.ntmps11
  go_wp2
  go_ret
  exact ⟨rfl, rfl⟩
theorem zzB14 (s : ByteArray) (w : World) (ht : s.size ≤ 1048576) :
    Calls Try.prog 14 #[.string s] w fun e w' => e = .returned (.bool true) ∧ w = w' := by
  go_enter Try.func14, Try.ntmps14
  go_wp2
  go_ret
  exact ⟨rfl, rfl⟩

theorem bytes_snoc (s : ByteArray) (k : Nat) (h : k < s.size) : (bytesOf s).take (k + 1) = (bytesOf s).take k ++ [((s[k]'h).toNat : Int)] := by
  rw [List.take_succ_eq_append_getElem (by simpa [bytesOf] using h)]
  simp [bytesOf]
  rfl
theorem run_snoc (s : ByteArray) (k : Nat) (h : k < s.size) : runL 0 ((bytesOf s).take (k + 1)) = nxt (runL 0 ((bytesOf s).take k)) ((s[k]'h).toNat : Int) := by
  rw [bytes_snoc s k h, runL_snoc]
theorem byte_bd (b : UInt8) : 0 ≤ (b.toNat : Int) ∧ (b.toNat : Int) ≤ 255 := by have := b.toNat_lt; omega
theorem valid_plain (s : ByteArray) : valid (numL s false) = acc (runL 0 (bytesOf s)) := by rw [acc0]; simp [numL]
theorem valid_plus (s : ByteArray) : (valid (numL s false) || valid (numL s true)) = (runL 0 (bytesOf s) != 9) := by rw [alive_viable]; simp [numL]
theorem acc_eq (st : Int) : acc st = (st == 2 || (st == 3 || (st == 5 || st == 8))) := by
  rw [Bool.eq_iff_iff]; simp [acc]

set_option maxHeartbeats 2000000 in
theorem accepts_core (s : ByteArray) (w : World) (hs : s.size ≤ 65536) :
    Calls Try.prog 3 #[.string s] w fun e w' => e = .returned (.bool true) ∧ w = w' := by
  go_enter Try.func3, Try.ntmps3
  go_wp2_with (go_at_call 11; refine (zzB11 _ _ (by omega)).mono ?_; rintro e w' ⟨rfl, hw⟩; obtain rfl := hw)
  go_loop [3, 4] (fun v3 v4 => ∃ (k : Nat) (st : Int), k ≤ s.size ∧ v4 = .int .i64 k ∧ v3 = .int .u8 st ∧ 0 ≤ st ∧ st ≤ 9 ∧ Hid (st = runL 0 ((bytesOf s).take k))) (fun _ v4 => s.size - (intOf v4).toNat)
  case atStart => exact ⟨0, 0, by omega, rfl, rfl, by omega, by omega, rfl⟩
  case round =>
    obtain ⟨k, st, hk, rfl, rfl, hs0, hs9, HS⟩ := hrel
    by_cases hlt : k < s.size
    · have hki : (k : Int) < (s.size : Int) := by omega
      have HN : Hid (nxt st ((s[k]'hlt).toNat : Int) = runL 0 ((bytesOf s).take (k + 1))) := by rw [Hid, run_snoc s k hlt, ← HS.out]
      have HR : Hid (0 ≤ nxt st ((s[k]'hlt).toNat : Int) ∧ nxt st ((s[k]'hlt).toNat : Int) ≤ 9) := nxt_range _ _
      go_wp2_with fail
      refine (next_any st _ _ ⟨hs0, hs9⟩ (byte_bd _)).mono ?_
      rintro e w' ⟨rfl, hw⟩
      obtain rfl := hw.symm
      go_wp2
      go_round
      case rel => exact ⟨k + 1, _, by omega, by go_num, rfl, HR.out.1, HR.out.2, HN⟩
      case measure => simp [intOf]; omega
    · have hki : decide ((k : Int) < (s.size : Int)) = false := decide_eq_false (by omega)
      have HV : Hid (valid (numL s false) = acc st) := by rw [Hid, valid_plain, HS.out, List.take_of_length_le (by rw [bytesOf_length]; omega)]
      clear HS
      go_upto_region 10 with fail
      go_cut [5] (fun v5 wc => v5 = .bool (acc st) ∧ wc = w)
      case first =>
        have HA := acc_eq st
        obtain ⟨b2, hb2⟩ : ∃ b, (st == 2) = b := ⟨_, rfl⟩
        obtain ⟨b3, hb3⟩ : ∃ b, (st == 3) = b := ⟨_, rfl⟩
        obtain ⟨b5, hb5⟩ : ∃ b, (st == 5) = b := ⟨_, rfl⟩
        obtain ⟨b8, hb8⟩ : ∃ b, (st == 8) = b := ⟨_, rfl⟩
        rw [hb2, hb3, hb5, hb8] at HA
        have HA' : Hid (acc st = (b2 || (b3 || (b5 || b8)))) := HA
        clear HA
        cases b2
        · cases b3
          · cases b5
            · cases b8
              · go_wp2
                go_meet
                case rel => exact ⟨by rw [HA'.out]; rfl, rfl⟩
              · go_wp2
                go_meet
                case rel => exact ⟨by rw [HA'.out]; rfl, rfl⟩
            · clear hb8
              go_wp2
              go_meet
              case rel => exact ⟨by rw [HA'.out]; rfl, rfl⟩
          · clear hb5 hb8
            go_wp2
            go_meet
            case rel => exact ⟨by rw [HA'.out]; rfl, rfl⟩
        · clear hb3 hb5 hb8
          go_wp2
          go_meet
          case rel => exact ⟨by rw [HA'.out]; rfl, rfl⟩
      case rest =>
        obtain ⟨rfl, hw⟩ := hcut
        obtain rfl := hw.symm
        go_wp2_with fail
        refine (valid_any s false _ hs).mono ?_
        rintro e w' ⟨rfl, hw⟩
        obtain rfl := hw
        rw [HV.out]
        go_wp2
        go_ret
        exact ⟨by simp, rfl⟩

set_option maxHeartbeats 2000000 in
theorem lives_core (s : ByteArray) (w : World) (hs : s.size ≤ 65536) :
    Calls Try.prog 4 #[.string s] w fun e w' => e = .returned (.bool true) ∧ w = w' := by
  go_enter Try.func4, Try.ntmps4
  go_wp2_with (go_at_call 14; refine (zzB14 _ _ (by omega)).mono ?_; rintro e w' ⟨rfl, hw⟩; obtain rfl := hw)
  go_loop [3, 4, 5] (fun v3 v4 v5 => ∃ (k : Nat) (st : Int) (al : Bool), k ≤ s.size ∧ v5 = .int .i64 k ∧ v3 = .int .u8 st ∧ v4 = .bool al ∧ 0 ≤ st ∧ st ≤ 9 ∧ Hid (st = runL 0 ((bytesOf s).take k)) ∧ Hid (al = (st != 9))) (fun _ _ v5 => s.size - (intOf v5).toNat)
  case atStart => exact ⟨0, 0, true, by omega, rfl, rfl, rfl, by omega, by omega, rfl, rfl⟩
  case round =>
    obtain ⟨k, st, al, hk, rfl, rfl, rfl, hs0, hs9, HS, HA⟩ := hrel
    by_cases hlt : k < s.size
    · have hki : (k : Int) < (s.size : Int) := by omega
      obtain ⟨c, hc⟩ : ∃ c : Int, c = ((s[k]'hlt).toNat : Int) := ⟨_, rfl⟩
      have HN : Hid (nxt st c = runL 0 ((bytesOf s).take (k + 1))) := by rw [Hid, run_snoc s k hlt, ← HS.out, hc]
      have HR : Hid (0 ≤ nxt st c ∧ nxt st c ≤ 9) := nxt_range _ _
      have HC : Hid (c = ((s[k]'hlt).toNat : Int)) := hc
      clear hc
      go_wp2_with fail
      rw [← HC.out]
      refine (next_any st c _ ⟨hs0, hs9⟩ (by rw [HC.out]; exact byte_bd _)).mono ?_
      rintro e w' ⟨rfl, hw⟩
      obtain rfl := hw.symm
      by_cases h9 : nxt st c = 9
      · have hb : (nxt st c == 9) = true := beq_iff_eq.2 h9
        have HA2 : Hid (false = (nxt st c != 9)) := by rw [Hid, h9]; rfl
        clear h9
        go_wp2
        go_round
        case rel => exact ⟨k + 1, _, false, by omega, by go_num, rfl, rfl, HR.out.1, HR.out.2, HN, HA2⟩
        case measure => simp [intOf]; omega
      · have hb : (nxt st c == 9) = false := beq_eq_false_iff_ne.2 h9
        have HA2 : Hid (al = (nxt st c != 9)) := by
          have h9' : st ≠ 9 := fun e => h9 (by rw [e]; simp [nxt])
          rw [Hid, HA.out]
          have e1 : (st != 9) = true := by simpa using h9'
          have e2 : (nxt st c != 9) = true := by simpa using h9
          rw [e1, e2]
        clear h9
        go_wp2
        go_round
        case rel => exact ⟨k + 1, _, al, by omega, by go_num, rfl, rfl, HR.out.1, HR.out.2, HN, HA2⟩
        case measure => simp [intOf]; omega
    · have hki : decide ((k : Int) < (s.size : Int)) = false := decide_eq_false (by omega)
      have HV : Hid (al = (valid (numL s false) || valid (numL s true))) := by rw [Hid, HA.out, valid_plus, HS.out, List.take_of_length_le (by rw [bytesOf_length]; omega)]
      clear HS HA
      go_wp2_with fail
      refine (valid_any s false _ hs).mono ?_
      rintro e w' ⟨rfl, hw⟩
      obtain rfl := hw
      obtain ⟨v1, hv1⟩ : ∃ v1, valid (numL s false) = v1 := ⟨_, rfl⟩
      rw [hv1]
      have HV1 : Hid (al = (v1 || valid (numL s true))) := by rw [Hid, ← hv1]; exact HV.out
      clear HV hv1
      cases v1
      · go_wp2_with fail
        refine (valid_any s true _ hs).mono ?_
        rintro e w' ⟨rfl, hw⟩
        obtain rfl := hw
        have HV2 : Hid (al = valid (numL s true)) := by rw [Hid, HV1.out]; rfl
        rw [← HV2.out]
        clear HV1
        go_wp2
        go_ret
        exact ⟨by simp, rfl⟩
      · have HV2 : Hid (al = true) := by rw [Hid, HV1.out]; rfl
        have hal := HV2.out
        clear HV1 HV2
        subst hal
        go_wp2
        go_ret
        exact ⟨rfl, rfl⟩

end Go.Proofs.Qxb6000357a
