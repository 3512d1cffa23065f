import Derived.Test.Qxb6601111aRow
import Derived.Test.Qxb6601111aCmdP
import Derived.Deep.DeepCutAuto
namespace Go.Proofs.Qxb6601111a
open Go.RowKit
set_option linter.unusedVariables false
set_option linter.unusedSimpArgs false

set_option maxHeartbeats 4000000 in
set_option maxRecDepth 100000 in
theorem cmd_any (s : ByteArray) (w : World) (hs : s.size ≤ 1048576) :
    Calls Try.prog 25 #[.string s] w fun e w' => e = .returned (.string (strOfNums (cmdF false (bytesOf s)))) ∧ Below w.heap.size w w' := by
  obtain ⟨i0, hi, hz0, hz1, hz2⟩ := info_parts Try.info5
  go_enter Try.func25, Try.ntmps25
  go_wp2_with (first | (at_make; refine wpList_make_own _ rfl _ _ 46 rfl w.heap.size 5 i0 (.int .u8 0) 1 Try.underlying46 hi hz0 hz1 _ _ _ s.size rfl rfl ?c1 ?c2 ?c3 ?c4 ?_))
  case c1 => rfl
  case c2 => first | omega | (rw [hz2]; omega)
  case c3 => unfold maxLen; omega
  case c4 => exact Nat.le_refl _
  intro w1 hown1 hgrow1
  have hrow : Hid (Row w.heap.size w.heap.size s.size [] w1) := Row.made hown1
  have hbel : Hid (Below w.heap.size w w1) := Below.made (Below.refl _ _) hgrow1 (Nat.le_refl _)
  clear hown1 hgrow1
  go_wp2_with fail
  go_loopw [3, 4, 5] (fun v3 v4 v5 wr => ∃ (k : Nat) (L : List Int) (sp : Bool), k ≤ s.size ∧ v5 = .int .i64 k ∧ v3 = .slice (some ⟨w.heap.size, 0, none⟩) L.length s.size ∧ v4 = .bool sp ∧
      Hid (L.length + (if sp = true then 1 else 0) ≤ k) ∧ Hid (Row w.heap.size w.heap.size s.size L wr) ∧ Hid (Below w.heap.size w wr) ∧ Hid (cmdF false (bytesOf s) = L ++ cmdF sp ((bytesOf s).drop k))) (fun _ _ v5 _ => s.size - (intOf v5).toNat)
  case atStart => exact ⟨0, [], false, by omega, rfl, rfl, rfl, by simp [Hid], hrow, hbel, by simp [Hid]⟩
  case round =>
    clear hrow hbel
    obtain ⟨k, L, sp, hk, rfl, rfl, rfl, hb, hrow, hbel, HL⟩ := hrel
    by_cases hlt : k < s.size
    · have hki : (k : Int) < (s.size : Int) := by omega
      have hLk : L.length ≤ k := by have := hb.out; omega
      obtain ⟨c, hcc⟩ : ∃ c : Int, c = ((s[k]'hlt).toNat : Int) := ⟨_, rfl⟩
      have HC : Hid (c = ((s[k]'hlt).toNat : Int)) := hcc
      have HD : Hid ((bytesOf s).drop k = c :: (bytesOf s).drop (k + 1)) := by rw [Hid, hcc]; exact bytesOf_drop s k hlt
      have hc0 : 0 ≤ c ∧ c ≤ 255 := by rw [hcc]; exact byte_bd _
      obtain ⟨hc1, hc2⟩ := hc0
      clear hcc
      go_upto_region 7 with fail
      rw [← HC.out]
      clear HC
      rcases cases_of c with hc | hc | hc | hc | ⟨hc, hc'⟩ | ⟨hc, hc'⟩
      · -- dropped
        have HE : Hid (cmdF false (bytesOf s) = L ++ cmdF sp ((bytesOf s).drop (k + 1))) := by rw [Hid, HL.out, HD.out, cmd_drop sp _ (by simp [isDrop]; omega)]
        have HB : Hid (L.length + (if sp = true then 1 else 0) ≤ k + 1) := by have := hb.out; rw [Hid]; omega
        rcases hc with rfl | rfl | rfl | rfl
        · go_wp2
          go_roundw
          case rel => exact ⟨k + 1, L, sp, by omega, by go_num, rfl, rfl, HB, hrow, hbel, HE⟩
          case measure => simp [intOf]; omega
        · go_wp2
          go_roundw
          case rel => exact ⟨k + 1, L, sp, by omega, by go_num, rfl, rfl, HB, hrow, hbel, HE⟩
          case measure => simp [intOf]; omega
        · go_wp2
          go_roundw
          case rel => exact ⟨k + 1, L, sp, by omega, by go_num, rfl, rfl, HB, hrow, hbel, HE⟩
          case measure => simp [intOf]; omega
        · go_wp2
          go_roundw
          case rel => exact ⟨k + 1, L, sp, by omega, by go_num, rfl, rfl, HB, hrow, hbel, HE⟩
          case measure => simp [intOf]; omega
      · -- a blank
        have HE : Hid (cmdF false (bytesOf s) = L ++ cmdF true ((bytesOf s).drop (k + 1))) := by rw [Hid, HL.out, HD.out, cmd_blank sp _ (by simp [isDrop]; omega) (by simp [isBlank]; omega)]
        have HB : Hid (L.length + (if true = true then 1 else 0) ≤ k + 1) := by have := hb.out; have := hLk; rw [Hid]; simp; omega
        rcases hc with rfl | rfl | rfl | rfl | rfl | rfl | rfl | rfl
        · go_wp2
          go_roundw
          case rel => exact ⟨k + 1, L, true, by omega, by go_num, rfl, rfl, HB, hrow, hbel, HE⟩
          case measure => simp [intOf]; omega
        · go_wp2
          go_roundw
          case rel => exact ⟨k + 1, L, true, by omega, by go_num, rfl, rfl, HB, hrow, hbel, HE⟩
          case measure => simp [intOf]; omega
        · go_wp2
          go_roundw
          case rel => exact ⟨k + 1, L, true, by omega, by go_num, rfl, rfl, HB, hrow, hbel, HE⟩
          case measure => simp [intOf]; omega
        · go_wp2
          go_roundw
          case rel => exact ⟨k + 1, L, true, by omega, by go_num, rfl, rfl, HB, hrow, hbel, HE⟩
          case measure => simp [intOf]; omega
        · go_wp2
          go_roundw
          case rel => exact ⟨k + 1, L, true, by omega, by go_num, rfl, rfl, HB, hrow, hbel, HE⟩
          case measure => simp [intOf]; omega
        · go_wp2
          go_roundw
          case rel => exact ⟨k + 1, L, true, by omega, by go_num, rfl, rfl, HB, hrow, hbel, HE⟩
          case measure => simp [intOf]; omega
        · go_wp2
          go_roundw
          case rel => exact ⟨k + 1, L, true, by omega, by go_num, rfl, rfl, HB, hrow, hbel, HE⟩
          case measure => simp [intOf]; omega
        · go_wp2
          go_roundw
          case rel => exact ⟨k + 1, L, true, by omega, by go_num, rfl, rfl, HB, hrow, hbel, HE⟩
          case measure => simp [intOf]; omega
      · -- / or (
        rcases hc with rfl | rfl
        · cases sp
          · have HE : Hid (cmdF false (bytesOf s) = (L ++ [47]) ++ cmdF false ((bytesOf s).drop (k + 1))) := by rw [Hid, HL.out, HD.out, cmd_mark false _ (by decide) (by decide) (by decide)]; simp [low]
            have HB : Hid ((L ++ [47]).length + (if false = true then 1 else 0) ≤ k + 1) := by have := hLk; rw [Hid]; simp; omega
            clear HL HD
            go_wp2_with (first | (at_builtin; go_must (refine wpList_push w wr w.heap.size rfl _ _ 46 rfl i0 Try.underlying46 hi hz1 _ _ _ L 47 rfl (by simp) rfl hrow.out hbel.out ?a1 ?b1 ?_)))
            try case a1 => simp
            try case b1 => first | omega | (simp; omega)
            intro w2 hrow2 hbel2 _
            go_wp2
            go_roundw
            case rel => exact ⟨k + 1, L ++ [47], false, by omega, by go_num, by simp, rfl, HB, hrow2, hbel2, HE⟩
            case measure => simp [intOf]; omega
          · have HE : Hid (cmdF false (bytesOf s) = (L ++ [47]) ++ cmdF false ((bytesOf s).drop (k + 1))) := by rw [Hid, HL.out, HD.out, cmd_mark true _ (by decide) (by decide) (by decide)]; simp [low]
            have HB : Hid ((L ++ [47]).length + (if false = true then 1 else 0) ≤ k + 1) := by have := hLk; rw [Hid]; simp; omega
            clear HL HD
            go_wp2_with (first | (at_builtin; go_must (refine wpList_push w wr w.heap.size rfl _ _ 46 rfl i0 Try.underlying46 hi hz1 _ _ _ L 47 rfl (by simp) rfl hrow.out hbel.out ?a2 ?b2 ?_)))
            try case a2 => simp
            try case b2 => first | omega | (simp; omega)
            intro w2 hrow2 hbel2 _
            go_wp2
            go_roundw
            case rel => exact ⟨k + 1, L ++ [47], false, by omega, by go_num, by simp, rfl, HB, hrow2, hbel2, HE⟩
            case measure => simp [intOf]; omega
        · cases sp
          · have HE : Hid (cmdF false (bytesOf s) = (L ++ [40]) ++ cmdF false ((bytesOf s).drop (k + 1))) := by rw [Hid, HL.out, HD.out, cmd_mark false _ (by decide) (by decide) (by decide)]; simp [low]
            have HB : Hid ((L ++ [40]).length + (if false = true then 1 else 0) ≤ k + 1) := by have := hLk; rw [Hid]; simp; omega
            clear HL HD
            go_wp2_with (first | (at_builtin; go_must (refine wpList_push w wr w.heap.size rfl _ _ 46 rfl i0 Try.underlying46 hi hz1 _ _ _ L 40 rfl (by simp) rfl hrow.out hbel.out ?a3 ?b3 ?_)))
            try case a3 => simp
            try case b3 => first | omega | (simp; omega)
            intro w2 hrow2 hbel2 _
            go_wp2
            go_roundw
            case rel => exact ⟨k + 1, L ++ [40], false, by omega, by go_num, by simp, rfl, HB, hrow2, hbel2, HE⟩
            case measure => simp [intOf]; omega
          · have HE : Hid (cmdF false (bytesOf s) = (L ++ [40]) ++ cmdF false ((bytesOf s).drop (k + 1))) := by rw [Hid, HL.out, HD.out, cmd_mark true _ (by decide) (by decide) (by decide)]; simp [low]
            have HB : Hid ((L ++ [40]).length + (if false = true then 1 else 0) ≤ k + 1) := by have := hLk; rw [Hid]; simp; omega
            clear HL HD
            go_wp2_with (first | (at_builtin; go_must (refine wpList_push w wr w.heap.size rfl _ _ 46 rfl i0 Try.underlying46 hi hz1 _ _ _ L 40 rfl (by simp) rfl hrow.out hbel.out ?a4 ?b4 ?_)))
            try case a4 => simp
            try case b4 => first | omega | (simp; omega)
            intro w2 hrow2 hbel2 _
            go_wp2
            go_roundw
            case rel => exact ⟨k + 1, L ++ [40], false, by omega, by go_num, by simp, rfl, HB, hrow2, hbel2, HE⟩
            case measure => simp [intOf]; omega
      · -- a capital
        have n1 : isDrop c = false := by simp [isDrop]; omega
        have n2 : isBlank c = false := by simp [isBlank]; omega
        have n3 : isMark c = false := by simp [isMark]; omega
        have n4 : low c = (c + 32) := by unfold low; rw [if_pos (by omega)]
        have N1 : Hid (isDrop c = false) := n1
        have N2 : Hid (isBlank c = false) := n2
        have N3 : Hid (isMark c = false) := n3
        have N4 : Hid (low c = (c + 32)) := n4
        clear n1 n2 n3 n4
        have e92 : (c == 92) = false := beq_eq_false_iff_ne.2 (by omega)
        have e34 : (c == 34) = false := beq_eq_false_iff_ne.2 (by omega)
        have e39 : (c == 39) = false := beq_eq_false_iff_ne.2 (by omega)
        have e94 : (c == 94) = false := beq_eq_false_iff_ne.2 (by omega)
        have e44 : (c == 44) = false := beq_eq_false_iff_ne.2 (by omega)
        have e59 : (c == 59) = false := beq_eq_false_iff_ne.2 (by omega)
        have e32 : (c == 32) = false := beq_eq_false_iff_ne.2 (by omega)
        have e9 : (c == 9) = false := beq_eq_false_iff_ne.2 (by omega)
        have e10 : (c == 10) = false := beq_eq_false_iff_ne.2 (by omega)
        have e11 : (c == 11) = false := beq_eq_false_iff_ne.2 (by omega)
        have e12 : (c == 12) = false := beq_eq_false_iff_ne.2 (by omega)
        have e13 : (c == 13) = false := beq_eq_false_iff_ne.2 (by omega)
        have m47 : (c != 47) = true := by rw [bne_iff_ne]; omega
        have m40 : (c != 40) = true := by rw [bne_iff_ne]; omega
        obtain ⟨hu1, hu2⟩ := hc
        cases sp
        · have HE : Hid (cmdF false (bytesOf s) = (L ++ [(c + 32)]) ++ cmdF false ((bytesOf s).drop (k + 1))) := by rw [Hid, HL.out, HD.out, cmd_no _ N1.out N2.out, N4.out]; simp
          have HB : Hid ((L ++ [(c + 32)]).length + (if false = true then 1 else 0) ≤ k + 1) := by have := hLk; rw [Hid]; simp; omega
          clear HL HD
          go_wp2_with (first | (at_builtin; go_must (refine wpList_push w wr w.heap.size rfl _ _ 46 rfl i0 Try.underlying46 hi hz1 _ _ _ L (c + 32) rfl (by simp) rfl hrow.out hbel.out ?a5 ?b5 ?_)))
          try case a5 => simp
          try case b5 => first | omega | (simp; omega)
          intro w2 hrow2 hbel2 _
          go_wp2
          go_roundw
          case rel => exact ⟨k + 1, L ++ [(c + 32)], false, by omega, by go_num, by simp, rfl, HB, hrow2, hbel2, HE⟩
          case measure => simp [intOf]; omega
        · have hLs : Hid (L.length + 1 ≤ k) := by have := hb.out; simp at this; exact this
          have hLsi : L.length + 1 ≤ k := hLs.out
          have HE : Hid (cmdF false (bytesOf s) = (L ++ [32, (c + 32)]) ++ cmdF false ((bytesOf s).drop (k + 1))) := by rw [Hid, HL.out, HD.out, cmd_sp _ N1.out N2.out N3.out, N4.out]; simp
          have HB : Hid ((L ++ [32, (c + 32)]).length + (if false = true then 1 else 0) ≤ k + 1) := by have := hLs.out; rw [Hid]; simp; omega
          clear HL HD
          go_wp2_with (first | (at_builtin; go_must (refine wpList_push w wr w.heap.size rfl _ _ 46 rfl i0 Try.underlying46 hi hz1 _ _ _ L 32 rfl (by simp) rfl hrow.out hbel.out ?a6 ?b6 ?_)))
          try case a6 => simp
          try case b6 => first | omega | (simp; omega)
          intro w2 hrow2 hbel2 _
          go_wp2_with (first | (at_builtin; go_must (refine wpList_push w w2 w.heap.size rfl _ _ 46 rfl i0 Try.underlying46 hi hz1 _ _ _ (L ++ [32]) (c + 32) rfl (by simp) rfl hrow2.out hbel2.out ?a7 ?b7 ?_)))
          try case a7 => simp
          try case b7 => first | omega | (simp; omega)
          intro w3 hrow3 hbel3 _
          go_wp2
          go_roundw
          case rel => exact ⟨k + 1, L ++ [32, (c + 32)], false, by omega, by go_num, by simp, rfl, HB, hrow3, hbel3, HE⟩
          case measure => simp [intOf]; omega
      · -- another, below
        have n1 : isDrop c = false := by simp [isDrop]; omega
        have n2 : isBlank c = false := by simp [isBlank]; omega
        have n3 : isMark c = false := by simp [isMark]; omega
        have n4 : low c = c := by unfold low; rw [if_neg (by omega)]
        have N1 : Hid (isDrop c = false) := n1
        have N2 : Hid (isBlank c = false) := n2
        have N3 : Hid (isMark c = false) := n3
        have N4 : Hid (low c = c) := n4
        clear n1 n2 n3 n4
        have e92 : (c == 92) = false := beq_eq_false_iff_ne.2 (by omega)
        have e34 : (c == 34) = false := beq_eq_false_iff_ne.2 (by omega)
        have e39 : (c == 39) = false := beq_eq_false_iff_ne.2 (by omega)
        have e94 : (c == 94) = false := beq_eq_false_iff_ne.2 (by omega)
        have e44 : (c == 44) = false := beq_eq_false_iff_ne.2 (by omega)
        have e59 : (c == 59) = false := beq_eq_false_iff_ne.2 (by omega)
        have e32 : (c == 32) = false := beq_eq_false_iff_ne.2 (by omega)
        have e9 : (c == 9) = false := beq_eq_false_iff_ne.2 (by omega)
        have e10 : (c == 10) = false := beq_eq_false_iff_ne.2 (by omega)
        have e11 : (c == 11) = false := beq_eq_false_iff_ne.2 (by omega)
        have e12 : (c == 12) = false := beq_eq_false_iff_ne.2 (by omega)
        have e13 : (c == 13) = false := beq_eq_false_iff_ne.2 (by omega)
        have m47 : (c != 47) = true := by rw [bne_iff_ne]; omega
        have m40 : (c != 40) = true := by rw [bne_iff_ne]; omega
        have d1 : decide (65 ≤ c) = false := decide_eq_false (by omega)
        clear hc
        cases sp
        · have HE : Hid (cmdF false (bytesOf s) = (L ++ [c]) ++ cmdF false ((bytesOf s).drop (k + 1))) := by rw [Hid, HL.out, HD.out, cmd_no _ N1.out N2.out, N4.out]; simp
          have HB : Hid ((L ++ [c]).length + (if false = true then 1 else 0) ≤ k + 1) := by have := hLk; rw [Hid]; simp; omega
          clear HL HD
          go_wp2_with (first | (at_builtin; go_must (refine wpList_push w wr w.heap.size rfl _ _ 46 rfl i0 Try.underlying46 hi hz1 _ _ _ L c rfl (by simp) rfl hrow.out hbel.out ?a8 ?b8 ?_)))
          try case a8 => simp
          try case b8 => first | omega | (simp; omega)
          intro w2 hrow2 hbel2 _
          go_wp2
          go_roundw
          case rel => exact ⟨k + 1, L ++ [c], false, by omega, by go_num, by simp, rfl, HB, hrow2, hbel2, HE⟩
          case measure => simp [intOf]; omega
        · have hLs : Hid (L.length + 1 ≤ k) := by have := hb.out; simp at this; exact this
          have hLsi : L.length + 1 ≤ k := hLs.out
          have HE : Hid (cmdF false (bytesOf s) = (L ++ [32, c]) ++ cmdF false ((bytesOf s).drop (k + 1))) := by rw [Hid, HL.out, HD.out, cmd_sp _ N1.out N2.out N3.out, N4.out]; simp
          have HB : Hid ((L ++ [32, c]).length + (if false = true then 1 else 0) ≤ k + 1) := by have := hLs.out; rw [Hid]; simp; omega
          clear HL HD
          go_wp2_with (first | (at_builtin; go_must (refine wpList_push w wr w.heap.size rfl _ _ 46 rfl i0 Try.underlying46 hi hz1 _ _ _ L 32 rfl (by simp) rfl hrow.out hbel.out ?a9 ?b9 ?_)))
          try case a9 => simp
          try case b9 => first | omega | (simp; omega)
          intro w2 hrow2 hbel2 _
          go_wp2_with (first | (at_builtin; go_must (refine wpList_push w w2 w.heap.size rfl _ _ 46 rfl i0 Try.underlying46 hi hz1 _ _ _ (L ++ [32]) c rfl (by simp) rfl hrow2.out hbel2.out ?a10 ?b10 ?_)))
          try case a10 => simp
          try case b10 => first | omega | (simp; omega)
          intro w3 hrow3 hbel3 _
          go_wp2
          go_roundw
          case rel => exact ⟨k + 1, L ++ [32, c], false, by omega, by go_num, by simp, rfl, HB, hrow3, hbel3, HE⟩
          case measure => simp [intOf]; omega
      · -- another, above
        have n1 : isDrop c = false := by simp [isDrop]; omega
        have n2 : isBlank c = false := by simp [isBlank]; omega
        have n3 : isMark c = false := by simp [isMark]; omega
        have n4 : low c = c := by unfold low; rw [if_neg (by omega)]
        have N1 : Hid (isDrop c = false) := n1
        have N2 : Hid (isBlank c = false) := n2
        have N3 : Hid (isMark c = false) := n3
        have N4 : Hid (low c = c) := n4
        clear n1 n2 n3 n4
        have e92 : (c == 92) = false := beq_eq_false_iff_ne.2 (by omega)
        have e34 : (c == 34) = false := beq_eq_false_iff_ne.2 (by omega)
        have e39 : (c == 39) = false := beq_eq_false_iff_ne.2 (by omega)
        have e94 : (c == 94) = false := beq_eq_false_iff_ne.2 (by omega)
        have e44 : (c == 44) = false := beq_eq_false_iff_ne.2 (by omega)
        have e59 : (c == 59) = false := beq_eq_false_iff_ne.2 (by omega)
        have e32 : (c == 32) = false := beq_eq_false_iff_ne.2 (by omega)
        have e9 : (c == 9) = false := beq_eq_false_iff_ne.2 (by omega)
        have e10 : (c == 10) = false := beq_eq_false_iff_ne.2 (by omega)
        have e11 : (c == 11) = false := beq_eq_false_iff_ne.2 (by omega)
        have e12 : (c == 12) = false := beq_eq_false_iff_ne.2 (by omega)
        have e13 : (c == 13) = false := beq_eq_false_iff_ne.2 (by omega)
        have m47 : (c != 47) = true := by rw [bne_iff_ne]; omega
        have m40 : (c != 40) = true := by rw [bne_iff_ne]; omega
        have d1 : decide (c ≤ 90) = false := decide_eq_false (by omega)
        have d0 : 65 ≤ c := by omega
        clear hc
        cases sp
        · have HE : Hid (cmdF false (bytesOf s) = (L ++ [c]) ++ cmdF false ((bytesOf s).drop (k + 1))) := by rw [Hid, HL.out, HD.out, cmd_no _ N1.out N2.out, N4.out]; simp
          have HB : Hid ((L ++ [c]).length + (if false = true then 1 else 0) ≤ k + 1) := by have := hLk; rw [Hid]; simp; omega
          clear HL HD
          go_wp2_with (first | (at_builtin; go_must (refine wpList_push w wr w.heap.size rfl _ _ 46 rfl i0 Try.underlying46 hi hz1 _ _ _ L c rfl (by simp) rfl hrow.out hbel.out ?a11 ?b11 ?_)))
          try case a11 => simp
          try case b11 => first | omega | (simp; omega)
          intro w2 hrow2 hbel2 _
          go_wp2
          go_roundw
          case rel => exact ⟨k + 1, L ++ [c], false, by omega, by go_num, by simp, rfl, HB, hrow2, hbel2, HE⟩
          case measure => simp [intOf]; omega
        · have hLs : Hid (L.length + 1 ≤ k) := by have := hb.out; simp at this; exact this
          have hLsi : L.length + 1 ≤ k := hLs.out
          have HE : Hid (cmdF false (bytesOf s) = (L ++ [32, c]) ++ cmdF false ((bytesOf s).drop (k + 1))) := by rw [Hid, HL.out, HD.out, cmd_sp _ N1.out N2.out N3.out, N4.out]; simp
          have HB : Hid ((L ++ [32, c]).length + (if false = true then 1 else 0) ≤ k + 1) := by have := hLs.out; rw [Hid]; simp; omega
          clear HL HD
          go_wp2_with (first | (at_builtin; go_must (refine wpList_push w wr w.heap.size rfl _ _ 46 rfl i0 Try.underlying46 hi hz1 _ _ _ L 32 rfl (by simp) rfl hrow.out hbel.out ?a12 ?b12 ?_)))
          try case a12 => simp
          try case b12 => first | omega | (simp; omega)
          intro w2 hrow2 hbel2 _
          go_wp2_with (first | (at_builtin; go_must (refine wpList_push w w2 w.heap.size rfl _ _ 46 rfl i0 Try.underlying46 hi hz1 _ _ _ (L ++ [32]) c rfl (by simp) rfl hrow2.out hbel2.out ?a13 ?b13 ?_)))
          try case a13 => simp
          try case b13 => first | omega | (simp; omega)
          intro w3 hrow3 hbel3 _
          go_wp2
          go_roundw
          case rel => exact ⟨k + 1, L ++ [32, c], false, by omega, by go_num, by simp, rfl, HB, hrow3, hbel3, HE⟩
          case measure => simp [intOf]; omega

    · have hki : decide ((k : Int) < (s.size : Int)) = false := decide_eq_false (by omega)
      have HE : Hid (cmdF false (bytesOf s) = L ++ cmdF sp []) := by rw [Hid, HL.out, bytesOf_end s k hlt]
      clear HL
      cases sp
      · have HF : Hid (cmdF false (bytesOf s) = L) := by rw [Hid, HE.out]; simp [cmdF]
        have hcv := run_convert_bytes_arg (P := Try.prog) wr 46 5 Try.underlying46 Try.underlying5 w.heap.size 0 L.length s.size L rfl (fun i hi => by simpa using hrow.out.cell i hi) 9 Try.underlying9
        go_wp2
        go_ret
        exact ⟨by rw [HF.out]; rfl, hbel.out⟩
      · have HF : Hid (cmdF false (bytesOf s) = L ++ [32]) := by rw [Hid, HE.out]; simp [cmdF]
        have hLs : L.length + 1 ≤ k := by have := hb.out; simp at this; exact this
        go_wp2_with (first | (at_builtin; go_must (refine wpList_push w wr w.heap.size rfl _ _ 46 rfl i0 Try.underlying46 hi hz1 _ _ _ L 32 rfl rfl rfl hrow.out hbel.out ?z1 ?z2 ?_)))
        try case z1 => simp
        try case z2 => omega
        intro w2 hrow2 hbel2 _
        have hcv := run_convert_bytes_arg (P := Try.prog) w2 46 5 Try.underlying46 Try.underlying5 w.heap.size 0 (L.length + 1) s.size (L ++ [32]) (by simp) (fun i hi => by simpa using hrow2.out.cell i (by simpa using hi)) 9 Try.underlying9
        go_wp2
        go_ret
        exact ⟨by rw [HF.out]; rfl, hbel2.out⟩

end Go.Proofs.Qxb6601111a
