import Derived.Test.Qxb6000357aRead
import Derived.Test.Qxb6000357aReadP
import Derived.Test.Qxb6000357aReadP
import Derived.Test.Qxb6000357aReadP
import Derived.Test.Qxb6000357aReadP
import Derived.Test.Qxb6000357aReadP
import Derived.Test.Qxb6000357aReadP
import Derived.Test.Qxb6000357aReadP
import Derived.Test.Qxb6000357aReadP
namespace Go.Proofs.Qxb6000357a
open Go.RowKit

theorem zzB15 (v sg z : Int) (tl : ByteArray) (up : Bool) (w : World) (ht : tl.size ≤ 1048576) :
    Calls Try.prog 15 #[.int .u64 v, .int .u8 sg, .int .u8 z, .string tl, .bool up] w fun e w' => e = .returned (.bool true) ∧ w = w' := by
  go_enter Try.func15, Try.ntmps15
  go_wp2
  go_ret
  exact ⟨rfl, rfl⟩

set_option maxHeartbeats 2000000 in
set_option maxRecDepth 100000 in
theorem read_core (v sg z : Int) (tl : ByteArray) (up : Bool) (w : World) (hv : 0 ≤ v ∧ v ≤ 18446744073709551615) (hsg : 0 ≤ sg ∧ sg ≤ 255) (hz : 0 ≤ z ∧ z ≤ 255) (ht : tl.size ≤ 65536)
    (hnd : ∀ h : 0 < tl.size, dig (tl[0]'h).toNat = false) :
    Calls Try.prog 6 #[.int .u64 v, .int .u8 sg, .int .u8 z, .string tl, .bool up] w fun e w' => e = .returned (.bool true) ∧ Below w.heap.size w w' := by
  obtain ⟨i0, hi, hz0, hz1, hz2⟩ := info_parts Try.info5
  have HND : Hid (∀ h : 0 < tl.size, dig (tl[0]'h).toNat = false) := hnd
  clear hnd
  obtain ⟨hv1, hv2⟩ := hv
  obtain ⟨hs1, hs2⟩ := hsg
  obtain ⟨hzz1, hzz2⟩ := hz
  go_enter Try.func6, Try.ntmps6
  go_upto_region 5 with (go_at_call 15; refine (zzB15 _ _ _ _ _ _ (by omega)).mono ?_; rintro e w' ⟨rfl, rfl⟩)
  go_cut [42] (fun t wc => t = .bool false ∧ wc = w)
  case first =>
    by_cases h0 : 0 < tl.size
    · have h0i : (0 : Int) < (tl.size : Int) := by omega
      go_wp2_with fail
      refine (zzDigit_no _ _ (HND.out h0)).mono ?_
      rintro e w' ⟨rfl, hw⟩
      obtain rfl := hw.symm
      go_wp2_with fail
      go_meet
      case rel => exact ⟨rfl, rfl⟩
    · have h0i : decide ((0 : Int) < (tl.size : Int)) = false := decide_eq_false (by omega)
      go_wp2_with fail
      go_meet
      case rel => exact ⟨rfl, rfl⟩
  case rest =>
    obtain ⟨rfl, hw⟩ := hcut
    obtain rfl := hw.symm
    go_upto_if 47 with (first | (at_make; refine wpList_make_own _ rfl _ _ 30 rfl w.heap.size 5 i0 (.int .u8 0) 1 Try.underlying30 hi hz0 hz1 _ _ _ (tl.size + 32) rfl rfl ?c1 ?c2 ?c3 ?c4 ?_))
    case c2 => first | omega | (rw [hz2]; omega)
    case c3 => unfold maxLen; omega
    intro w1 hown1 hgrow1
    have hinv : Hid (Inv w (tl.size + 32) [] w1) := Inv.made hown1 hgrow1
    clear hown1 hgrow1
    go_upto_if 47 with fail
    go_cut [11] (fun v11 wc => ∃ c : Int, (c = 69 ∨ c = 101) ∧ v11 = .slice (some ⟨w.heap.size, 0, none⟩) 1 (tl.size + 32) ∧ Hid (Inv w (tl.size + 32) [c] wc))
    case first =>
      cases up
      · go_wp2_with (first | (at_builtin; go_must (refine wpList_push w w1 rfl _ _ rfl i0 Try.underlying30 hi hz1 _ _ [] 101 rfl rfl rfl hinv.out ?p1 ?p2 ?_)))
        case p1 => simp
        case p2 => omega
        intro w2 hinv2 _
        go_wp2
        go_meet
        case rel => exact ⟨101, .inr rfl, rfl, hinv2⟩
      · go_wp2_with (first | (at_builtin; go_must (refine wpList_push w w1 rfl _ _ rfl i0 Try.underlying30 hi hz1 _ _ [] 69 rfl rfl rfl hinv.out ?q1 ?q2 ?_)))
        case q1 => simp
        case q2 => omega
        intro w2 hinv2 _
        go_wp2
        go_meet
        case rel => exact ⟨69, .inl rfl, rfl, hinv2⟩
    case rest =>
      obtain ⟨c, hc, rfl, hinvc⟩ := hcut
      clear hinv
      have HC : Hid (c = 69 ∨ c = 101) := hc
      clear hc
      go_upto_if 57 with fail
      go_cut [11] (fun v11 wd => ∃ l : List Int, Hid (l = c :: sgnA (sg % 3)) ∧ l.length ≤ 2 ∧ v11 = .slice (some ⟨w.heap.size, 0, none⟩) l.length (tl.size + 32) ∧ Hid (Inv w (tl.size + 32) l wd))
      case first =>
        by_cases h1 : sg % 3 = 1
        · have hb : (sg % 3 == 1) = true := beq_iff_eq.2 h1
          have HL : Hid (c :: sgnA (sg % 3) = [c, 43]) := by rw [h1]; rfl
          clear h1
          go_wp2_with (first | (at_builtin; go_must (refine wpList_push w wc rfl _ _ rfl i0 Try.underlying30 hi hz1 _ _ [c] 43 rfl rfl rfl hinvc.out ?r1 ?r2 ?_)))
          case r1 => simp
          case r2 => omega
          intro w2 hinv2 _
          go_wp2
          go_meet
          case rel => exact ⟨[c, 43], HL.out.symm, by simp, rfl, hinv2⟩
        · have hb : (sg % 3 == 1) = false := beq_eq_false_iff_ne.2 h1
          have HL : Hid (c :: sgnA (sg % 3) = [c]) := by simp [Hid, sgnA, h1]
          clear h1
          go_wp2
          go_meet
          case rel => exact ⟨[c], HL.out.symm, by simp, rfl, hinvc⟩
      case rest =>
        obtain ⟨l1, HL1, hl1, rfl, hinv1⟩ := hcut
        clear hinvc
        obtain ⟨wd, hwd⟩ : ∃ wd : World, wd = wc := ⟨_, rfl⟩
        subst hwd
        go_upto_if 62 with fail
        go_cut [11] (fun v11 wd => ∃ l : List Int, Hid (l = l1 ++ sgnB (sg % 3)) ∧ l.length ≤ 3 ∧ v11 = .slice (some ⟨w.heap.size, 0, none⟩) l.length (tl.size + 32) ∧ Hid (Inv w (tl.size + 32) l wd))
        case first =>
          by_cases h1 : sg % 3 = 2
          · have hb : (sg % 3 == 2) = true := beq_iff_eq.2 h1
            have HL : Hid (l1 ++ sgnB (sg % 3) = l1 ++ [45]) := by rw [h1]; rfl
            clear h1
            go_wp2_with (first | (at_builtin; go_must (refine wpList_push w _ rfl _ _ rfl i0 Try.underlying30 hi hz1 _ _ l1 45 rfl rfl rfl hinv1.out ?s1 ?s2 ?_)))
            case s1 => simp
            case s2 => omega
            intro w2 hinv2 _
            go_wp2
            go_meet
            case rel => exact ⟨l1 ++ [45], HL.out.symm, by simp; omega, by simp, hinv2⟩
          · have hb : (sg % 3 == 2) = false := beq_eq_false_iff_ne.2 h1
            have HL : Hid (l1 ++ sgnB (sg % 3) = l1) := by simp [Hid, sgnB, h1]
            clear h1
            go_wp2
            go_meet
            case rel => exact ⟨l1, HL.out.symm, by omega, rfl, hinv1⟩
        case rest =>
          obtain ⟨l2, HL2, hl2, rfl, hinv2⟩ := hcut
          clear hinv1
          go_wp2_with fail
          go_loopw [11, 14] (fun v11 k wr => ∃ (t : Nat) (lt : List Int), (t : Int) ≤ z % 8 ∧ k = .int .u8 t ∧ Hid (lt = l2 ++ List.replicate t 48) ∧ lt.length ≤ 3 + t ∧ v11 = .slice (some ⟨w.heap.size, 0, none⟩) lt.length (tl.size + 32) ∧ Hid (Inv w (tl.size + 32) lt wr)) (fun _ k _ => 8 - (intOf k).toNat)
          case atStart => exact ⟨0, l2, by omega, rfl, by simp [Hid], by omega, rfl, hinv2⟩
          case round =>
            obtain ⟨t, lt, htz, rfl, HLt, hlt, rfl, hinvt⟩ := hrel
            by_cases htl : (t : Int) < z % 8
            · go_wp2_with (first | (at_builtin; go_must (refine wpList_push w wr rfl _ _ rfl i0 Try.underlying30 hi hz1 _ _ lt 48 rfl rfl rfl hinvt.out ?t1 ?t2 ?_)))
              case t1 => simp
              case t2 => omega
              intro w2 hinv3 _
              go_wp2
              go_roundw
              case rel => exact ⟨t + 1, lt ++ [48], by omega, by go_num, by rw [Hid, HLt.out, List.replicate_succ', List.append_assoc], by simp; omega, by simp, hinv3⟩
              case measure => simp [intOf]; omega
            · have htd : decide ((t : Int) < z % 8) = false := decide_eq_false htl
              obtain ⟨wo, hwo⟩ : ∃ wo : World, wo = wr := ⟨_, rfl⟩
              subst hwo
              have hzt : Hid ((t : Int) = z % 8) := by show _ = _; omega
              have h20 : Hid (vq v 20 = 0) := vq_twenty v hv1 hv2
              go_wp2_with fail
              go_loopw [16, 17, 18] (fun sd sw sk wr => ∃ (r q : Nat) (D : Nat → Int), r + q = 19 ∧ sd = .int .i64 ((q : Int) + 1) ∧ sw = .int .u64 (vq v r) ∧ sk = .int .i64 r ∧
                  Hid (∀ j, q + 1 ≤ j → j < 20 → D j = 48 + vq v (19 - j) % 10) ∧ Hid (Dg w wo.heap.size D wr) ∧ Hid (Inv w (tl.size + 32) lt wr)) (fun _ _ k _ => 20 - (intOf k).toNat)
              case atStart => exact ⟨0, 19, fun _ => 0, rfl, rfl, rfl, rfl, fun j h1 h2 => by omega, Dg.start hinvt.out, hinvt.out.alloc _⟩
              case round =>
                obtain ⟨r, q', D, hrq, rfl, rfl, rfl, HD, hdg, hinvr⟩ := hrel
                clear hinvt
                have hr20 : r < 20 := by omega
                have hr20i : (r : Int) < 20 := by omega
                have hq20 : q' < 20 := by omega
                have hvr := vq_nonneg v hv1 r
                have hvl := vq_le v hv1 r
                have hrq' : Hid (r = 19 - q') := by show _ = _; omega
                clear hrq
                have hcd : wr.cell? ⟨wo.heap.size, q', none⟩ = some (.int .u8 (D q')) := hdg.out.2.2.1 q' hq20
                have hfd : wr.frozen? ⟨wo.heap.size, q', none⟩ = false := hdg.out.2.2.2 q'
                have hdg2 : Hid (Dg w wo.heap.size _ _) := hdg.out.store q' hq20 (48 + vq v r % 10)
                have hinv2 : Hid (Inv w (tl.size + 32) lt (wr.setCell ⟨wo.heap.size, q', none⟩ (.int .u8 (48 + vq v r % 10)))) := hinvr.out.store hdg.out.1 q' _
                have HD2 : Hid (∀ j, q' ≤ j → j < 20 → (fun i => if i = q' then 48 + vq v r % 10 else D i) j = 48 + vq v (19 - j) % 10) := by
                  intro j h1 h2
                  show (if j = q' then _ else _) = _
                  by_cases e : j = q'
                  · subst e; rw [if_pos rfl, hrq'.out]
                  · rw [if_neg e]; exact HD.out j (by omega) h2
                by_cases hz10 : vq v r / 10 = 0
                · have hb : (vq v r / 10 == 0) = true := beq_iff_eq.2 hz10
                  have hzz : vq v (r + 1) = 0 := hz10
                  clear hz10
                  have HZ : Hid (vq v (r + 1) = 0) := hzz
                  clear hzz
                  obtain ⟨D2, HD3, hdg3⟩ : ∃ D2, Hid (∀ j, q' ≤ j → j < 20 → D2 j = 48 + vq v (19 - j) % 10) ∧ Hid (Dg w wo.heap.size D2 (wr.setCell ⟨wo.heap.size, q', none⟩ (.int .u8 (48 + vq v r % 10)))) := ⟨_, HD2, hdg2⟩
                  clear HD2 hdg2 hdg hinvr HD h20
                  obtain ⟨wp, hwp⟩ : ∃ wp : World, wp = wr := ⟨_, rfl⟩
                  subst hwp
                  go_wp2_with fail
                  clear hcd hfd
                  go_loopw [11, 19] (fun v11 sk wr => ∃ (n : Nat) (l3 : List Int), n ≤ 20 ∧ q' ≤ n ∧ sk = .int .i64 n ∧ Hid (l3 = lt ++ dl D2 q' (n - q')) ∧ l3.length ≤ 10 + n ∧ v11 = .slice (some ⟨w.heap.size, 0, none⟩) l3.length (tl.size + 32) ∧ Hid (Dg w wo.heap.size D2 wr) ∧ Hid (Inv w (tl.size + 32) l3 wr)) (fun _ k _ => 20 - (intOf k).toNat)
                  case atStart => exact ⟨q', lt, by omega, by omega, rfl, by simp [Hid, dl], by omega, rfl, hdg3, hinv2⟩
                  case round =>
                    obtain ⟨n, l3, hm, hqn, rfl, HL3, hl3, rfl, hdgm, hinvm⟩ := hrel
                    clear hdg3 hinv2
                    by_cases hm20 : n < 20
                    · have hmi : (n : Int) < 20 := by omega
                      have hcd : wr.cell? ⟨wo.heap.size, n, none⟩ = some (.int .u8 (D2 n)) := hdgm.out.2.2.1 _ hm20
                      go_wp2_with (first | (at_builtin; go_must (refine wpList_push w wr rfl _ _ rfl i0 Try.underlying30 hi hz1 _ _ l3 (D2 n) rfl rfl rfl hinvm.out ?v1 ?v2 ?_)))
                      case v1 => simp
                      case v2 => omega
                      intro w2 hinv3 hoth
                      have HN : Hid (l3 ++ [D2 n] = lt ++ dl D2 q' (n + 1 - q')) := by
                        obtain ⟨m, rfl⟩ : ∃ m, n = q' + m := ⟨n - q', by omega⟩
                        rw [Hid, HL3.out, show q' + m + 1 - q' = m + 1 by omega, show q' + m - q' = m by omega, dl, List.append_assoc]
                      have hdg4 : Hid (Dg w wo.heap.size D2 w2) := hdgm.out.others hoth.out
                      clear hcd
                      go_wp2
                      go_roundw
                      case rel => exact ⟨n + 1, l3 ++ [D2 n], by omega, by omega, by go_num, HN, by simp; omega, by simp, hdg4, hinv3⟩
                      case measure => simp [intOf]; omega
                    · have hmi : decide ((n : Int) < 20) = false := decide_eq_false (by omega)
                      have HM : Hid (q' + (n - q') = 20) := by show _ = _; omega
                      obtain ⟨wq, hwq⟩ : ∃ wq : World, wq = wr := ⟨_, rfl⟩
                      subst hwq
                      go_wp2_with fail
                      go_loopw [11, 21] (fun v11 sk wr => ∃ (k : Nat) (l4 : List Int), k ≤ tl.size ∧ sk = .int .i64 k ∧ Hid (l4 = l3 ++ (tlist tl).take k) ∧ l4.length ≤ 30 + k ∧ v11 = .slice (some ⟨w.heap.size, 0, none⟩) l4.length (tl.size + 32) ∧ Hid (Inv w (tl.size + 32) l4 wr)) (fun _ k _ => tl.size - (intOf k).toNat)
                      case atStart => exact ⟨0, l3, by omega, rfl, by simp [Hid], by omega, rfl, hinvm⟩
                      case round =>
                        obtain ⟨k, l4, hk, rfl, HL4, hl4, rfl, hinvk⟩ := hrel
                        clear hinvm hdgm
                        by_cases hkl : k < tl.size
                        · have hki : (k : Int) < (tl.size : Int) := by omega
                          have HT : Hid ((tlist tl).take (k + 1) = (tlist tl).take k ++ [((tl[k]'hkl).toNat : Int)]) := tlist_take tl k hkl
                          go_wp2_with (first | (at_builtin; go_must (refine wpList_push w wr rfl _ _ rfl i0 Try.underlying30 hi hz1 _ _ l4 ((tl[k]'hkl).toNat : Int) rfl rfl rfl hinvk.out ?x1 ?x2 ?_)))
                          case x1 => simp
                          case x2 => omega
                          intro w2 hinv3 _
                          go_wp2
                          go_roundw
                          case rel => exact ⟨k + 1, _, by omega, by go_num, by rw [Hid, HL4.out, HT.out, List.append_assoc], by simp; omega, by simp, hinv3⟩
                          case measure => simp [intOf]; omega
                        · have hki : decide ((k : Int) < (tl.size : Int)) = false := decide_eq_false (by omega)
                          have HPL := plain_law (v := v) (s := sg % 3) (t := t) (l3 := l3) (l4 := l4) HL1.out HL2.out HLt.out HL3.out (by rw [HL4.out, List.take_of_length_le (by simp [tlist]; omega)]) HM.out hq20 hrq'.out HZ.out HD3.out (tlist_head tl HND.out)
                          have HP : Hid (∀ kk, RunK (fun i => l4.getD i 0) l4.length kk → ∃ M, ExpRes (fun i => l4.getD i 0) l4.length kk = .tuple #[.int .u64 M, .bool (sg % 3 == 2), .int .i64 (l3.length : Int)] ∧ (v < 576460752303423488 → M = v) ∧ (¬ v < 576460752303423488 → 576460752303423488 ≤ M ∧ M < 9223372036854775808)) := HPL
                          clear HPL
                          have HBY : Hid (BytesAt wr (some ⟨w.heap.size, 0, none⟩) l4.length (fun i => l4.getD i 0)) := hinvk.out.bytes (bytes_bd (v := v) (s := sg % 3) (t := t) HC.out HL1.out HL2.out HLt.out HL3.out (by rw [HL4.out, List.take_of_length_le (by simp [tlist]; omega)]) HM.out HD3.out (tlist_bd tl))
                          have HBL : Hid (Below w.heap.size w wr) := hinvk.out.1
                          clear hinvk
                          go_wp2_with fail
                          refine (zzexp_any _ _ _ (fun i => l4.getD i 0) _ (by omega) HBY.out).mono ?_
                          rintro e w' ⟨⟨kk, hrk, rfl⟩, hw'⟩
                          obtain rfl := hw'.symm
                          obtain ⟨M, hM, hM1, hM2⟩ := HP.out kk hrk
                          rw [hM]
                          clear hM hrk
                          by_cases hs2 : sg % 3 = 2
                          · have hb2 : (sg % 3 == 2) = true := beq_iff_eq.2 hs2
                            clear hs2
                            by_cases hv59 : v < 576460752303423488
                            · obtain rfl := hM1 (by omega)
                              clear hM1 hM2
                              go_wp2
                              go_ret
                              exact ⟨by simp, HBL.out⟩
                            · obtain ⟨ha, hb⟩ := hM2 (by omega)
                              have hvd : decide (v < 576460752303423488) = false := decide_eq_false hv59
                              clear hM1 hM2 (by omega)
                              go_wp2
                              go_ret
                              exact ⟨by simp, HBL.out⟩
                          · have hb2 : (sg % 3 == 2) = false := beq_eq_false_iff_ne.2 hs2
                            clear hs2
                            by_cases hv59 : v < 576460752303423488
                            · obtain rfl := hM1 (by omega)
                              clear hM1 hM2
                              go_wp2
                              go_ret
                              exact ⟨by simp, HBL.out⟩
                            · obtain ⟨ha, hb⟩ := hM2 (by omega)
                              have hvd : decide (v < 576460752303423488) = false := decide_eq_false hv59
                              clear hM1 hM2 (by omega)
                              go_wp2
                              go_ret
                              exact ⟨by simp, HBL.out⟩
                · have hb : (vq v r / 10 == 0) = false := beq_eq_false_iff_ne.2 hz10
                  have hq1 : 1 ≤ q' := by
                    by_cases e : q' = 0
                    · have h19 := hrq'.out
                      subst e
                      subst h19
                      exact absurd h20.out hz10
                    · omega
                  clear hz10
                  go_wp2
                  go_roundw
                  case rel => exact ⟨r + 1, q' - 1, _, by have := hrq'.out; omega, by go_num, rfl, by go_num, by rw [show q' - 1 + 1 = q' by omega]; exact HD2, hdg2, hinv2⟩
                  case measure => simp [intOf]; omega

end Go.Proofs.Qxb6000357a
