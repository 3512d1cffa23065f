import Derived.Test.Qxb6601120aSumK
namespace Go.Proofs.Qxb6601120a
open Go.RowKit
open Go.Maps (Keyed has size Canon)
open Go.WideMaps
set_option linter.unusedVariables false

set_option maxRecDepth 100000 in
set_option maxHeartbeats 4000000 in
theorem law3 (a : Option Addr) (cap : Nat) (es : List (ByteArray × Int)) (nb : Bool) (n1 n2 n3 n4 n5 : Int) (a' : Option Addr) (cap' : Nat) (es' : List (ByteArray × Int)) (nb' : Bool) (m1 m2 m3 m4 m5 : Int) (w : World)
    (hn : es.length ≤ 9223372036854775807) (hs : SizesOk es) (hw : WfAll es) (h : EntsAt w a es) (hn' : es'.length ≤ 9223372036854775807) (hs' : SizesOk es') (hw' : WfAll es') (h' : EntsAt w a' es') :
    Calls Try.prog 3 #[.agg #[.slice a es.length cap, .bool nb, .int .i64 n1, .int .i64 n2, .int .i64 n3, .int .i64 n4, .int .i64 n5], .agg #[.slice a' es'.length cap', .bool nb', .int .i64 m1, .int .i64 m2, .int .i64 m3, .int .i64 m4, .int .i64 m5]] w fun e w' => e = .returned (.bool true) ∧ Below w.heap.size w w' := by
  have HE : ∀ wk, Hid (In2 w a cap es nb n1 n2 n3 n4 n5 a' cap' es' nb' m1 m2 m3 m4 m5 wk) → Hid (EntsAt wk a es) := fun wk hk => ((h.alloc _).alloc _).below (hk.out.mono (by simp))
  have HE' : ∀ wk, Hid (In2 w a cap es nb n1 n2 n3 n4 n5 a' cap' es' nb' m1 m2 m3 m4 m5 wk) → Hid (EntsAt wk a' es') := fun wk hk => ((h'.alloc _).alloc _).below (hk.out.mono (by simp))
  have HSZ : Hid (SizesOk es) := hs
  have HSZ' : Hid (SizesOk es') := hs'
  have HWF : Hid (WfAll es) := hw
  have HWF' : Hid (WfAll es') := hw'
  have HBW : ∀ wk, Hid (In2 w a cap es nb n1 n2 n3 n4 n5 a' cap' es' nb' m1 m2 m3 m4 m5 wk) → Hid (Below w.heap.size w wk) := fun wk hk => (((Below.refl _ _).alloc (Nat.le_refl _) _).alloc (by simp) _).trans (hk.out.mono (by omega))
  have HI0 : Hid (In2 w a cap es nb n1 n2 n3 n4 n5 a' cap' es' nb' m1 m2 m3 m4 m5 ((w.alloc (.cells #[.slice a es.length cap, .bool nb, .int .i64 n1, .int .i64 n2, .int .i64 n3, .int .i64 n4, .int .i64 n5] 24)).alloc (.cells #[.slice a' es'.length cap', .bool nb', .int .i64 m1, .int .i64 m2, .int .i64 m3, .int .i64 m4, .int .i64 m5] 24))) := Below.refl _ _
  have HST : ∀ wk wk', Hid (In2 w a cap es nb n1 n2 n3 n4 n5 a' cap' es' nb' m1 m2 m3 m4 m5 wk) → Below wk.heap.size wk wk' → Hid (In2 w a cap es nb n1 n2 n3 n4 n5 a' cap' es' nb' m1 m2 m3 m4 m5 wk') := fun wk wk' hk hb => hk.out.trans (hb.mono (by have := hk.out.size; simp at this; omega))
  clear h h' hs hs' hw hw'
  go_enter Try.func3, Try.ntmps3
  go_wp2_with fail
  refine (bytes6 a cap es nb n1 n2 n3 n4 n5 a' cap' es' nb' m1 m2 m3 m4 m5 _ hn HSZ.out (HE _ HI0).out hn' HSZ'.out (HE' _ HI0).out).mono ?_
  rintro e w1 ⟨hfit, hb⟩
  have HI1 : Hid (In2 w a cap es nb n1 n2 n3 n4 n5 a' cap' es' nb' m1 m2 m3 m4 m5 w1) := HST _ _ HI0 hb
  have HI1d : Hid (In2 w a cap es nb n1 n2 n3 n4 n5 a' cap' es' nb' m1 m2 m3 m4 m5 w1.drew) := HI1.out.drew
  clear hb
  rcases hfit with rfl | ⟨rfl, hsm, hsm'⟩
  · have HB := HBW _ HI1
    go_wp2
    go_ret
    exact ⟨rfl, HB.out⟩
  have HSM : Hid (Small es) := hsm
  have HSM' : Hid (Small es') := hsm'
  have hl1 := hsm.1
  have hl2 := hsm'.1
  clear hsm hsm'
  obtain ⟨q0, q1, q2, q3, q4, q5, q6, q7, q8, q9, q10, q11, q12, q13⟩ := boxes HI1.out
  go_upto_region 3 with fail
  go_cut [32] (fun v32 wc => ∃ b, v32 = .bool b ∧ Hid (In2 w a cap es nb n1 n2 n3 n4 n5 a' cap' es' nb' m1 m2 m3 m4 m5 wc))
  case first =>
    go_region_held3 (fun w' => w'.cell? ⟨w.heap.size, 0, none⟩ = some (.slice a es.length cap) ∧ w'.cell? ⟨w.heap.size, 1, none⟩ = some (.bool nb) ∧ w'.cell? ⟨w.heap.size, 2, none⟩ = some (.int .i64 n1) ∧ w'.cell? ⟨w.heap.size, 3, none⟩ = some (.int .i64 n2) ∧ w'.cell? ⟨w.heap.size, 4, none⟩ = some (.int .i64 n3) ∧ w'.cell? ⟨w.heap.size, 5, none⟩ = some (.int .i64 n4) ∧ w'.cell? ⟨w.heap.size, 6, none⟩ = some (.int .i64 n5) ∧ w'.cell? ⟨w.heap.size + 1, 0, none⟩ = some (.slice a' es'.length cap') ∧ w'.cell? ⟨w.heap.size + 1, 1, none⟩ = some (.bool nb') ∧ w'.cell? ⟨w.heap.size + 1, 2, none⟩ = some (.int .i64 m1) ∧ w'.cell? ⟨w.heap.size + 1, 3, none⟩ = some (.int .i64 m2) ∧ w'.cell? ⟨w.heap.size + 1, 4, none⟩ = some (.int .i64 m3) ∧ w'.cell? ⟨w.heap.size + 1, 5, none⟩ = some (.int .i64 m4) ∧ w'.cell? ⟨w.heap.size + 1, 6, none⟩ = some (.int .i64 m5)) (go_keep)
      (first
        | (go_at_call_of 7 (Value.slice a es.length cap); refine (bytes7 a cap es nb n1 n2 n3 n4 n5 _ hn HSZ.out (HE _ (by assumption)).out).mono ?_; rintro e w2 ⟨⟨z, rfl, hz0, hz1⟩, hb⟩; have HI2 : Hid (In2 w a cap es nb n1 n2 n3 n4 n5 a' cap' es' nb' m1 m2 m3 m4 m5 w2) := HST _ _ (by assumption) hb; clear hb; obtain ⟨r0, r1, r2, r3, r4, r5, r6, r7, r8, r9, r10, r11, r12, r13⟩ := boxes HI2.out)
        | (go_at_call_of 7 (Value.slice a' es'.length cap'); refine (bytes7 a' cap' es' nb' m1 m2 m3 m4 m5 _ hn' HSZ'.out (HE' _ (by assumption)).out).mono ?_; rintro e w3 ⟨⟨y, rfl, hy0, hy1⟩, hb⟩; have HI3 : Hid (In2 w a cap es nb n1 n2 n3 n4 n5 a' cap' es' nb' m1 m2 m3 m4 m5 w3) := HST _ _ (by assumption) hb; clear hb; obtain ⟨s0, s1, s2, s3, s4, s5, s6, s7, s8, s9, s10, s11, s12, s13⟩ := boxes HI3.out))
    all_goals
      go_wp2_with fail
      go_meet
      case rel => exact ⟨_, rfl, by assumption⟩
  case rest =>
    obtain ⟨b, rfl, HI2⟩ := hcut
    clear q0 q1 q2 q3 q4 q5 q6 q7 q8 q9 q10 q11 q12 q13 HI1 HI1d HI0
    cases b
    · obtain ⟨q0, q1, q2, q3, q4, q5, q6, q7, q8, q9, q10, q11, q12, q13⟩ := boxes HI2.out
      go_upto_region 5 with fail
      go_cut [46] (fun v46 wd => ∃ b, v46 = .bool b ∧ wd = wc ∧ Hid (b = false → nb = true → es = [] → es' = []))
      case first =>
        cases nb
        · go_wp2_with fail
          go_meet
          case rel => exact ⟨_, rfl, rfl, fun _ h => by cases h⟩
        · by_cases h1 : es.length = 0
          · have h1i : ((es.length : Int) == 0) = true := by simp [h1]
            by_cases h2 : 0 < es'.length
            · have h2i : (0 : Int) < (es'.length : Int) := by omega
              go_wp2_with fail
              go_meet
              case rel => exact ⟨_, rfl, rfl, fun h => by cases h⟩
            · have h2i : decide ((0 : Int) < (es'.length : Int)) = false := decide_eq_false (by omega)
              have HZ : Hid (es' = []) := List.length_eq_zero_iff.1 (by omega)
              go_wp2_with fail
              go_meet
              case rel => exact ⟨_, rfl, rfl, fun _ _ _ => HZ.out⟩
          · have h1i : ((es.length : Int) == 0) = false := by simpa using h1
            have HZ : Hid (es ≠ []) := fun e => h1 (by rw [e]; rfl)
            go_wp2_with fail
            go_meet
            case rel => exact ⟨_, rfl, rfl, fun _ _ h => absurd h HZ.out⟩
      case rest =>
        obtain ⟨b, rfl, hw, HNE⟩ := hcut
        obtain rfl := hw
        cases b
        · go_wp2_with fail
          refine (outcomes a cap es nb n1 n2 n3 n4 n5 wc HSM.out HWF.out (HE _ HI2).out).mono ?_
          rintro e w3 ⟨mbA, rfl, hmA, hb⟩
          have HI3 : Hid (In2 w a cap es nb n1 n2 n3 n4 n5 a' cap' es' nb' m1 m2 m3 m4 m5 w3) := HST _ _ HI2 hb
          have HA3 : Hid (Opt mbA es.length (mapD es) w3) := hmA.opt
          have HAr : Hid (∀ g, mbA = some g → g < w3.heap.size) := fun g hg => (hmA.rng g hg).2
          have HAn : Hid (mbA.isNone = (nb && es.isEmpty)) := hmA.nil
          clear hmA hb q0 q1 q2 q3 q4 q5 q6 q7 q8 q9 q10 q11 q12 q13
          obtain ⟨q0, q1, q2, q3, q4, q5, q6, q7, q8, q9, q10, q11, q12, q13⟩ := boxes HI3.out
          go_wp2_with fail
          refine (outcomes a' cap' es' nb' m1 m2 m3 m4 m5 w3 HSM'.out HWF'.out (HE' _ HI3).out).mono ?_
          rintro e w4 ⟨mbB, rfl, hmB, hb⟩
          have HI4 : Hid (In2 w a cap es nb n1 n2 n3 n4 n5 a' cap' es' nb' m1 m2 m3 m4 m5 w4) := HST _ _ HI3 hb
          have HA4 : Hid (Opt mbA es.length (mapD es) w4) := HA3.out.below hb
          have HB4 : Hid (Opt mbB es'.length (mapD es') w4) := hmB.opt
          have HABr : Hid ((∀ g, mbA = some g → g < w4.heap.size) ∧ (∀ g, mbB = some g → g < w4.heap.size)) := ⟨fun g hg => Nat.lt_of_lt_of_le (HAr.out g hg) hb.size, fun g hg => (hmB.rng g hg).2⟩
          have HBn : Hid (mbB.isNone = (nb' && es'.isEmpty)) := hmB.nil
          clear hmB hb q0 q1 q2 q3 q4 q5 q6 q7 q8 q9 q10 q11 q12 q13 HA3 HAr
          obtain ⟨q0, q1, q2, q3, q4, q5, q6, q7, q8, q9, q10, q11, q12, q13⟩ := boxes HI4.out
          go_wp2_with fail
          refine (summaryOf_any a cap es nb n1 n2 n3 n4 n5 w4 HSM.out HWF.out (HE _ HI4).out).mono ?_
          rintro e w5 ⟨mbS, rfl, hmS, hb⟩
          go_upto_region 10 with fail
          have HM5 : Hid (Made w4.heap.size nb es mbS w5) := hmS
          have HL5 : Hid (Below w4.heap.size w4 w5) := hb
          have HI6 : Hid (In2 w a cap es nb n1 n2 n3 n4 n5 a' cap' es' nb' m1 m2 m3 m4 m5 (w5.alloc (.cells #[.map mbS, .int .i64 n1, .int .i64 n2, .int .i64 n3, .int .i64 n4, .int .i64 n5] 30))) := HST _ _ (HST _ _ HI4 hb) ((Below.refl _ _).alloc (Nat.le_refl _) _)
          have HSn : Hid (mbS.isNone = mbA.isNone) := hmS.nil.trans HAn.out.symm
          have HS0 : Hid (mbS = none → size (mapD es') = 0) := fun e => by
            have h1 := hmS.nil
            rw [e] at h1
            have h2 : nb = true ∧ es.isEmpty = true := by simpa using h1.symm
            rw [HNE.out trivial h2.1 (by simpa using h2.2)]
            rfl
          clear hmS hb HAn q0 q1 q2 q3 q4 q5 q6 q7 q8 q9 q10 q11 q12 q13
          generalize hw6 : w5.alloc (.cells #[.map mbS, .int .i64 n1, .int .i64 n2, .int .i64 n3, .int .i64 n4, .int .i64 n5] 30) = w6 at HI6 ⊢
          obtain ⟨q0, q1, q2, q3, q4, q5, q6, q7, q8, q9, q10, q11, q12, q13⟩ := boxes HI6.out
          generalize hp : w5.heap.size = p
          go_wp2_with fail
          refine (summaryOf_any a' cap' es' nb' m1 m2 m3 m4 m5 w6 HSM'.out HWF'.out (HE' _ HI6).out).mono ?_
          rintro e w7 ⟨mbO, rfl, hmO, hb⟩
          go_upto_region 11 with fail
          have HPRE : Hid (Pre w a cap es nb n1 n2 n3 n4 n5 a' cap' es' nb' m1 m2 m3 m4 m5 mbA mbB mbS mbO p w7.heap.size (w7.alloc (.cells #[.map mbO, .int .i64 m1, .int .i64 m2, .int .i64 m3, .int .i64 m4, .int .i64 m5] 30))) := by
            subst hw6 hp
            exact pre_of HI4.out HA4.out HB4.out HM5.out HL5.out (by simpa using hmO) (by simpa using hb)
          have HON : Hid (mbO.isNone = mbB.isNone) := hmO.nil.trans HBn.out.symm
          clear hmO hb hw6 hp HI6 HM5 HL5 HI4 HA4 HB4 HABr HBn HNE q0 q1 q2 q3 q4 q5 q6 q7 q8 q9 q10 q11 q12 q13
          generalize w7.alloc (.cells #[.map mbO, .int .i64 m1, .int .i64 m2, .int .i64 m3, .int .i64 m4, .int .i64 m5] 30) = w8 at HPRE ⊢
          generalize w7.heap.size = p8 at HPRE ⊢
          obtain ⟨c0, c1, c2, c3, c4, c5, _⟩ := HPRE.out.op
          go_wp2_with fail
          refine (zzadd p mbS mbO es.length es'.length n1 n2 n3 n4 n5 m1 m2 m3 m4 m5 (mapD es) (mapD es') w8 HPRE.out.sp HPRE.out.S HPRE.out.O (fun g hg hO => (HPRE.out.neO g hO).2 hg) (by have h1 := HPRE.out.O.size_le; unfold maxLen; omega) HS0.out).mono ?_
          rintro e w9 ⟨rfl, hr⟩
          obtain ⟨D, hF, hAdd⟩ := fin_of HPRE.out hr
          have HF : Hid (Fin w a cap es nb n1 n2 n3 n4 n5 a' cap' es' nb' m1 m2 m3 m4 m5 mbA mbB mbS mbO p p8 D (es.length + size (mapD es')) w9) := hF
          have HAD : Hid (Adds D (mapD es) (mapD es') (fun _ => false)) := hAdd
          clear hr hF hAdd HPRE HS0 c0 c1 c2 c3 c4 c5
          obtain ⟨q0, q1, q2, q3, q4, q5, q6, q7, q8, q9, q10, q11, q12, q13⟩ := boxes HF.out.i
          obtain ⟨c0, c1, c2, c3, c4, c5, _⟩ := HF.out.sp
          obtain ⟨d0, _, _, _, _, _, _⟩ := HF.out.op
          unfold adds at c1 c2 c3 c4 c5
          have hz1 : (wrap64 (n1 + m1) != wrap64 (n1 + m1)) = false := by simp
          have hz2 : (wrap64 (n2 + m2) != wrap64 (n2 + m2)) = false := by simp
          have hz3 : (wrap64 (n3 + m3) != wrap64 (n3 + m3)) = false := by simp
          have hz4 : (wrap64 (n4 + m4) != wrap64 (n4 + m4)) = false := by simp
          have hz5 : (wrap64 (n5 + m5) != wrap64 (n5 + m5)) = false := by simp
          go_upto_region 14 with fail
          clear hz1 hz2 hz3 hz4 hz5 c1 c2 c3 c4 c5
          have hnl : ∀ (w : World) (r : Option Nat), (binOp .eql 27 (.map r) (.map none)).run Try.prog w = .ok (.bool r.isNone) w := fun w r => run_eql_map_nil w _ _ _ r Try.underlying27
          obtain ⟨z, hz⟩ : ∃ z, z = mbA.isNone := ⟨_, rfl⟩
          have hnA : (binOp .eql 27 (.map mbA) (.map none)).run Try.prog w9 = .ok (.bool z) w9 := by rw [hz]; exact hnl _ _
          have hnS : (binOp .eql 27 (.map mbS) (.map none)).run Try.prog w9 = .ok (.bool z) w9 := by rw [hz, ← HSn.out]; exact hnl _ _
          have hzz : (z != z) = false := by simp
          clear hnl hz HSn
          go_upto_region 16 with fail
          clear hnA hnS hzz
          have HI9 : Hid (In2 w a cap es nb n1 n2 n3 n4 n5 a' cap' es' nb' m1 m2 m3 m4 m5 w9) := HF.out.i
          go_wp2
          go_loop [9, 10, 11, 12] (fun v _ _ _ => ∃ i : Nat, i ≤ es.length ∧ v = .int .i64 i) (fun v _ _ _ => es.length - (intOf v).toNat)
          case atStart => exact ⟨0, by omega, rfl⟩
          case round =>
            obtain ⟨i, hi, rfl⟩ := hrel
            by_cases hlt : i < es.length
            · have hki : (i : Int) < (es.length : Int) := by omega
              obtain ⟨b, off, e, rfl, he, hb, hc0, hc1⟩ := (HE _ HI9).out i hlt
              obtain ⟨t, m⟩ := e
              have hts := HSM.out.2 _ (List.mem_of_getElem? he)
              dsimp only at hc0 hc1 hts
              have htm : t.size ≤ maxLen := by unfold maxLen; omega
              have hlS := HF.out.S.lookok htm
              have hlA := HF.out.A.look htm
              have hlB := HF.out.B.look htm
              have hv : valAt D (keyLit t) = wrap64 (valAt (mapD es) (keyLit t) + valAt (mapD es') (keyLit t)) := val_sum HAD.out _ (HF.out.A.wf htm)
              have hh : has D (keyLit t) = true := by rw [has_sum HAD.out, has_of_mem he]; simp
              rw [hv, hh] at hlS
              generalize valAt (mapD es) (keyLit t) = x at hlS hlA
              generalize valAt (mapD es') (keyLit t) = y at hlS hlB
              have hz : (wrap64 (x + y) != wrap64 (x + y)) = false := by simp
              clear hv hh he htm
              go_wp2
              go_round
              case rel => exact ⟨i + 1, by omega, by go_num⟩
              case measure => simp [intOf]; omega
            · have hki : decide ((i : Int) < (es.length : Int)) = false := decide_eq_false (by omega)
              go_wp2
              go_loop [13, 14, 15, 16] (fun v _ _ _ => ∃ i : Nat, i ≤ es'.length ∧ v = .int .i64 i) (fun v _ _ _ => es'.length - (intOf v).toNat)
              case atStart => exact ⟨0, by omega, rfl⟩
              case round =>
                clear hki
                obtain ⟨i, hi, rfl⟩ := hrel
                by_cases hlt : i < es'.length
                · have hki : (i : Int) < (es'.length : Int) := by omega
                  obtain ⟨b, off, e, rfl, he, hb, hc0, hc1⟩ := (HE' _ HI9).out i hlt
                  obtain ⟨t, m⟩ := e
                  have hts := HSM'.out.2 _ (List.mem_of_getElem? he)
                  dsimp only at hc0 hc1 hts
                  have htm : t.size ≤ maxLen := by unfold maxLen; omega
                  have hlS := HF.out.S.lookok htm
                  have hlA := HF.out.A.look htm
                  have hlB := HF.out.B.look htm
                  have hv : valAt D (keyLit t) = wrap64 (valAt (mapD es) (keyLit t) + valAt (mapD es') (keyLit t)) := val_sum HAD.out _ (HF.out.A.wf htm)
                  have hh : has D (keyLit t) = true := by rw [has_sum HAD.out, has_of_mem he]; simp
                  rw [hv, hh] at hlS
                  generalize valAt (mapD es) (keyLit t) = x at hlS hlA
                  generalize valAt (mapD es') (keyLit t) = y at hlS hlB
                  have hz : (wrap64 (x + y) != wrap64 (x + y)) = false := by simp
                  clear hv hh he htm
                  go_wp2
                  go_round
                  case rel => exact ⟨i + 1, by omega, by go_num⟩
                  case measure => simp [intOf]; omega
                · have hki : decide ((i : Int) < (es'.length : Int)) = false := decide_eq_false (by omega)
                  have hlen := fun ty => HF.out.A.len ty
                  have hmm := fun n => run_mm n 38 34 4 Try.underlying38
                  obtain ⟨N0, hN0⟩ : ∃ N0 : Nat, N0 = size (mapD es) := ⟨_, rfl⟩
                  have hN1 : N0 ≤ es.length := by rw [hN0]; exact HF.out.A.size_le
                  have HN0 : Hid (N0 = size (mapD es)) := hN0
                  rw [← hN0] at hlen
                  clear hN0
                  go_wp2
                  go_loopw [17, 19, 20, 21, 22] (fun v17 v19 _ _ _ wr => ∃ i u : Nat, i ≤ es'.length ∧ u ≤ es.length + i ∧ v19 = .int .i64 i ∧ v17 = .int .i64 u ∧ Hid (u = size (mapD es) + (extras (mapD es) (es'.take i)).length) ∧ Hid (SetX w9.heap.size i (extras (mapD es) (es'.take i)) wr) ∧ Hid (Below w9.heap.size w9 wr)) (fun _ v19 _ _ _ _ => es'.length - (intOf v19).toNat)
                  case atStart => exact ⟨0, N0, by omega, by omega, rfl, rfl, by rw [HN0.out]; rfl, World.ownsMap_made _ _ _ _, (Below.refl _ _).alloc (Nat.le_refl _) _⟩
                  case round =>
                    obtain ⟨i, u, hi, hu, rfl, rfl, HU, HX, HBr⟩ := hrel
                    have HFr : Hid (Fin w a cap es nb n1 n2 n3 n4 n5 a' cap' es' nb' m1 m2 m3 m4 m5 mbA mbB mbS mbO p p8 D (es.length + size (mapD es')) wr) := HF.out.below HBr.out
                    have HIr : Hid (In2 w a cap es nb n1 n2 n3 n4 n5 a' cap' es' nb' m1 m2 m3 m4 m5 wr) := HFr.out.i
                    clear hki hlen hmm c0 d0 q0 q1 q2 q3 q4 q5 q6 q7 q8 q9 q10 q11 q12 q13
                    obtain ⟨q0, q1, q2, q3, q4, q5, q6, q7, q8, q9, q10, q11, q12, q13⟩ := boxes HIr.out
                    by_cases hlt : i < es'.length
                    · have hki : (i : Int) < (es'.length : Int) := by omega
                      obtain ⟨b, off, e, rfl, he, hb, hc0, hc1⟩ := (HE' _ HIr).out i hlt
                      obtain ⟨t, m⟩ := e
                      have hts := HSM'.out.2 _ (List.mem_of_getElem? he)
                      dsimp only at hc0 hc1 hts
                      have htm : t.size ≤ maxLen := by unfold maxLen; omega
                      have hlA := HFr.out.A.lookok htm
                      have HT : Hid (extras (mapD es) (es'.take (i + 1)) = extra (mapD es) (extras (mapD es) (es'.take i)) t) := extras_take_succ _ he
                      generalize valAt (mapD es) (keyLit t) = x at hlA
                      clear he
                      by_cases h1 : has (mapD es) (keyLit t) = true
                      · have HX2 : Hid (SetX w9.heap.size (i + 1) (extras (mapD es) (es'.take (i + 1))) wr) := by
                          unfold Hid; rw [HT.out, extra, if_pos h1]; exact World.ownsMap.mono HX.out (by omega)
                        have HU2 : Hid (u = size (mapD es) + (extras (mapD es) (es'.take (i + 1))).length) := by
                          unfold Hid; rw [HT.out, extra, if_pos h1]; exact HU.out
                        rw [h1] at hlA
                        clear h1 HT htm HU HX
                        go_wp2
                        go_roundw
                        case rel => exact ⟨i + 1, u, by omega, by omega, by go_num, rfl, HU2, HX2, HBr⟩
                        case measure => simp [intOf]; omega
                      · have h1f : has (mapD es) (keyLit t) = false := by simpa using h1
                        rw [h1f] at hlA
                        obtain ⟨q, hq, hq1, hq2⟩ := HX.out.look htm
                        cases q
                        · have h2 := hq2 rfl
                          obtain ⟨w2, hup, hsx, hgr⟩ := HX.out.upd (by unfold maxLen; omega) htm
                          have HX2 : Hid (SetX w9.heap.size (i + 1) (extras (mapD es) (es'.take (i + 1))) w2) := by
                            unfold Hid; rw [HT.out, extra, if_neg h1, if_neg h2]; exact hsx
                          have HU2 : Hid (u + 1 = size (mapD es) + (extras (mapD es) (es'.take (i + 1))).length) := by
                            unfold Hid; rw [HT.out, extra, if_neg h1, if_neg h2, List.length_append, HU.out]; simp; omega
                          have HB2 : Hid (Below w9.heap.size w9 w2) := HBr.out.grown hgr HBr.out.size (fun k hk => by cases hk; exact Nat.le_refl _)
                          clear h1 h1f h2 hq1 hq2 hsx hgr HT htm HU HX
                          go_wp2
                          go_roundw
                          case rel => exact ⟨i + 1, u + 1, by omega, by omega, by go_num, by go_num, HU2, HX2, HB2⟩
                          case measure => simp [intOf]; omega
                        · have h2 := hq1 rfl
                          have HX2 : Hid (SetX w9.heap.size (i + 1) (extras (mapD es) (es'.take (i + 1))) wr) := by
                            unfold Hid; rw [HT.out, extra, if_neg h1, if_pos h2]; exact World.ownsMap.mono HX.out (by omega)
                          have HU2 : Hid (u = size (mapD es) + (extras (mapD es) (es'.take (i + 1))).length) := by
                            unfold Hid; rw [HT.out, extra, if_neg h1, if_pos h2]; exact HU.out
                          clear h1 h1f h2 hq1 hq2 HT htm HU HX
                          go_wp2
                          go_roundw
                          case rel => exact ⟨i + 1, u, by omega, by omega, by go_num, rfl, HU2, HX2, HBr⟩
                          case measure => simp [intOf]; omega
                    · have hki : decide ((i : Int) < (es'.length : Int)) = false := decide_eq_false (by omega)
                      have hD : u = size D := by
                        have e : i = es'.length := by omega
                        have h := HU.out
                        rw [e, List.take_length] at h
                        rw [h]
                        exact (size_sum HAD.out HFr.out.S.canon HFr.out.A.canon rfl).symm
                      have hlS : ∀ ty, (Builtin.len_ #[27] ty #[.map mbS]).run Try.prog wr = .ok (.int .i64 (u : Int)) wr := fun ty => by rw [hD]; exact HFr.out.S.len ty
                      obtain ⟨N2, hN2⟩ : ∃ N2 : Nat, N2 = size (mapD es') := ⟨_, rfl⟩
                      have hlO : ∀ ty, (Builtin.len_ #[27] ty #[.map mbO]).run Try.prog wr = .ok (.int .i64 (N2 : Int)) wr := fun ty => by rw [hN2]; exact HFr.out.O.len ty
                      have hlB : ∀ ty, (Builtin.len_ #[27] ty #[.map mbB]).run Try.prog wr = .ok (.int .i64 (N2 : Int)) wr := fun ty => by rw [hN2]; exact HFr.out.B.len ty
                      have hz1 : ((u : Int) != (u : Int)) = false := by simp
                      have hz2 : ((N2 : Int) != (N2 : Int)) = false := by simp
                      have hnl : ∀ (w : World) (r : Option Nat), (binOp .eql 27 (.map r) (.map none)).run Try.prog w = .ok (.bool r.isNone) w := fun w r => run_eql_map_nil w _ _ _ r Try.underlying27
                      obtain ⟨y, hy⟩ : ∃ y, y = mbB.isNone := ⟨_, rfl⟩
                      have hnB : (binOp .eql 27 (.map mbB) (.map none)).run Try.prog wr = .ok (.bool y) wr := by rw [hy]; exact hnl _ _
                      have hnO : (binOp .eql 27 (.map mbO) (.map none)).run Try.prog wr = .ok (.bool y) wr := by rw [hy, ← HON.out]; exact hnl _ _
                      have hyy : (y != y) = false := by simp
                      have hc0 : wr.cell? ⟨p, 0, none⟩ = some (.map mbS) := HFr.out.sp.c0
                      have hd0 : wr.cell? ⟨p8, 0, none⟩ = some (.map mbO) := HFr.out.op.c0
                      clear hnl hy HON hN2 hD HU HX
                      go_wp2_with fail
                      refine (agree_on mbO mbB es'.length es'.length (mapD es') a' cap' es' nb' m1 m2 m3 m4 m5 wr HSM'.out (HE' _ HIr).out HFr.out.O HFr.out.B).mono ?_
                      rintro e w10 ⟨rfl, hb⟩
                      have HB := HBW _ (HST _ _ HIr hb)
                      clear hb
                      go_wp2
                      go_ret
                      exact ⟨rfl, HB.out⟩
        · have HB := HBW _ HI2
          go_wp2
          go_ret
          exact ⟨rfl, HB.out⟩
    · have HB := HBW _ HI2
      go_wp2
      go_ret
      exact ⟨rfl, HB.out⟩

end Go.Proofs.Qxb6601120a
