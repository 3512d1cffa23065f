import Derived.Test.Qxb6601111aRow
import Derived.Test.Qxb6601111aModelP
import Derived.Deep.DeepCutAuto
namespace Go.Proofs.Qxb6601111a
open Go.RowKit
set_option linter.unusedVariables false
set_option linter.unusedSimpArgs false

set_option maxHeartbeats 8000000 in
set_option maxRecDepth 100000 in
theorem model_any (s : ByteArray) (w : World) (hs : s.size ≤ 1048576) :
    Calls Try.prog 20 #[.string s] w fun e w' => e = .returned (.string (strOfNums (f3 (f2 false (p1 (bytesOf s)))))) ∧ Below w.heap.size w w' := by
  obtain ⟨i0, hi, hz0, hz1, hz2⟩ := info_parts Try.info5
  go_enter Try.func20, Try.ntmps20
  go_wp2_with (first | (at_make; refine wpList_make_own _ rfl _ _ 46 rfl w.heap.size 5 i0 (.int .u8 0) 1 Try.underlying46 hi hz0 hz1 _ _ _ s.size rfl rfl ?c1 ?c2 ?c3 ?c4 ?_))
  try case c1 => rfl
  try case c2 => first | omega | (rw [hz2]; omega)
  try case c3 => unfold maxLen; omega
  try case c4 => exact Nat.le_refl _
  intro w1 hown1 hgrow1
  have hrow : Hid (Row w.heap.size w.heap.size s.size [] w1) := Row.made hown1
  have hbel : Hid (Below w.heap.size w w1) := Below.made (Below.refl _ _) hgrow1 (Nat.le_refl _)
  clear hown1 hgrow1
  go_wp2_with fail
  go_loopw [3, 4] (fun v3 v4 wr => ∃ (k : Nat) (L : List Int), k ≤ s.size ∧ v4 = .int .i64 k ∧ v3 = .slice (some ⟨w.heap.size, 0, none⟩) L.length s.size ∧ L.length ≤ k ∧
      Hid (Row w.heap.size w.heap.size s.size L wr) ∧ Hid (Below w.heap.size w wr) ∧ Hid (p1 (bytesOf s) = L ++ p1 ((bytesOf s).drop k))) (fun _ v4 _ => s.size - (intOf v4).toNat)
  case atStart => exact ⟨0, [], by omega, rfl, rfl, by simp, hrow, hbel, by simp [Hid]⟩
  case round =>
    clear hrow hbel
    obtain ⟨k, L, hk, rfl, rfl, hLk, hrow, hbel, HL⟩ := hrel
    by_cases hlt : k < s.size
    · have hki : (k : Int) < (s.size : Int) := by omega
      obtain ⟨c, hcc⟩ : ∃ c : Int, c = ((s[k]'hlt).toNat : Int) := ⟨_, rfl⟩
      have HC : Hid (c = ((s[k]'hlt).toNat : Int)) := hcc
      have HD : Hid ((bytesOf s).drop k = c :: (bytesOf s).drop (k + 1)) := by rw [Hid, hcc]; exact bytesOf_drop s k hlt
      have hc0 : 0 ≤ c ∧ c ≤ 255 := by rw [hcc]; exact byte_bd _
      obtain ⟨hc1, hc2⟩ := hc0
      clear hcc
      go_upto_region 7 with fail
      rw [← HC.out]
      clear HC
      rcases cases_of c with hc | hc | hc | hc | ⟨hc, hc'⟩ | ⟨hc, hc'⟩
      · have HE : Hid (p1 (bytesOf s) = L ++ p1 ((bytesOf s).drop (k + 1))) := by rw [Hid, HL.out, HD.out, p1_drop _ (by simp [isDrop]; omega)]
        clear HL HD
        rcases hc with rfl | rfl | rfl | rfl
        · go_wp2
          go_roundw
          case rel => exact ⟨k + 1, L, by omega, by go_num, rfl, by omega, hrow, hbel, HE⟩
          case measure => simp [intOf]; omega
        · go_wp2
          go_roundw
          case rel => exact ⟨k + 1, L, by omega, by go_num, rfl, by omega, hrow, hbel, HE⟩
          case measure => simp [intOf]; omega
        · go_wp2
          go_roundw
          case rel => exact ⟨k + 1, L, by omega, by go_num, rfl, by omega, hrow, hbel, HE⟩
          case measure => simp [intOf]; omega
        · go_wp2
          go_roundw
          case rel => exact ⟨k + 1, L, by omega, by go_num, rfl, by omega, hrow, hbel, HE⟩
          case measure => simp [intOf]; omega
      · have N1 : Hid (isDrop c = false) := by simp [Hid, isDrop]; omega
        have N2 : Hid (isBlank c = true) := by simp [Hid, isBlank]; omega
        rcases hc with rfl | rfl | rfl | rfl | rfl | rfl | rfl | rfl
        · have HE : Hid (p1 (bytesOf s) = (L ++ [32]) ++ p1 ((bytesOf s).drop (k + 1))) := by rw [Hid, HL.out, HD.out, p1_blank _ N1.out N2.out]; simp
          clear HL HD
          go_wp2_with (first | (at_builtin; go_must (refine wpList_push w wr w.heap.size rfl _ _ 46 rfl i0 Try.underlying46 hi hz1 _ _ _ L 32 rfl (by simp) rfl hrow.out hbel.out ?a1 ?b1 ?_)))
          try case a1 => simp
          try case b1 => first | omega | (simp; omega)
          intro w2 hrow2 hbel2 _
          go_wp2
          go_roundw
          case rel => exact ⟨k + 1, L ++ [32], by omega, by go_num, by simp, by simp; omega, hrow2, hbel2, HE⟩
          case measure => simp [intOf]; omega
        · have HE : Hid (p1 (bytesOf s) = (L ++ [32]) ++ p1 ((bytesOf s).drop (k + 1))) := by rw [Hid, HL.out, HD.out, p1_blank _ N1.out N2.out]; simp
          clear HL HD
          go_wp2_with (first | (at_builtin; go_must (refine wpList_push w wr w.heap.size rfl _ _ 46 rfl i0 Try.underlying46 hi hz1 _ _ _ L 32 rfl (by simp) rfl hrow.out hbel.out ?a2 ?b2 ?_)))
          try case a2 => simp
          try case b2 => first | omega | (simp; omega)
          intro w2 hrow2 hbel2 _
          go_wp2
          go_roundw
          case rel => exact ⟨k + 1, L ++ [32], by omega, by go_num, by simp, by simp; omega, hrow2, hbel2, HE⟩
          case measure => simp [intOf]; omega
        · have HE : Hid (p1 (bytesOf s) = (L ++ [32]) ++ p1 ((bytesOf s).drop (k + 1))) := by rw [Hid, HL.out, HD.out, p1_blank _ N1.out N2.out]; simp
          clear HL HD
          go_wp2_with (first | (at_builtin; go_must (refine wpList_push w wr w.heap.size rfl _ _ 46 rfl i0 Try.underlying46 hi hz1 _ _ _ L 32 rfl (by simp) rfl hrow.out hbel.out ?a3 ?b3 ?_)))
          try case a3 => simp
          try case b3 => first | omega | (simp; omega)
          intro w2 hrow2 hbel2 _
          go_wp2
          go_roundw
          case rel => exact ⟨k + 1, L ++ [32], by omega, by go_num, by simp, by simp; omega, hrow2, hbel2, HE⟩
          case measure => simp [intOf]; omega
        · have HE : Hid (p1 (bytesOf s) = (L ++ [32]) ++ p1 ((bytesOf s).drop (k + 1))) := by rw [Hid, HL.out, HD.out, p1_blank _ N1.out N2.out]; simp
          clear HL HD
          go_wp2_with (first | (at_builtin; go_must (refine wpList_push w wr w.heap.size rfl _ _ 46 rfl i0 Try.underlying46 hi hz1 _ _ _ L 32 rfl (by simp) rfl hrow.out hbel.out ?a4 ?b4 ?_)))
          try case a4 => simp
          try case b4 => first | omega | (simp; omega)
          intro w2 hrow2 hbel2 _
          go_wp2
          go_roundw
          case rel => exact ⟨k + 1, L ++ [32], by omega, by go_num, by simp, by simp; omega, hrow2, hbel2, HE⟩
          case measure => simp [intOf]; omega
        · have HE : Hid (p1 (bytesOf s) = (L ++ [32]) ++ p1 ((bytesOf s).drop (k + 1))) := by rw [Hid, HL.out, HD.out, p1_blank _ N1.out N2.out]; simp
          clear HL HD
          go_wp2_with (first | (at_builtin; go_must (refine wpList_push w wr w.heap.size rfl _ _ 46 rfl i0 Try.underlying46 hi hz1 _ _ _ L 32 rfl (by simp) rfl hrow.out hbel.out ?a5 ?b5 ?_)))
          try case a5 => simp
          try case b5 => first | omega | (simp; omega)
          intro w2 hrow2 hbel2 _
          go_wp2
          go_roundw
          case rel => exact ⟨k + 1, L ++ [32], by omega, by go_num, by simp, by simp; omega, hrow2, hbel2, HE⟩
          case measure => simp [intOf]; omega
        · have HE : Hid (p1 (bytesOf s) = (L ++ [32]) ++ p1 ((bytesOf s).drop (k + 1))) := by rw [Hid, HL.out, HD.out, p1_blank _ N1.out N2.out]; simp
          clear HL HD
          go_wp2_with (first | (at_builtin; go_must (refine wpList_push w wr w.heap.size rfl _ _ 46 rfl i0 Try.underlying46 hi hz1 _ _ _ L 32 rfl (by simp) rfl hrow.out hbel.out ?a6 ?b6 ?_)))
          try case a6 => simp
          try case b6 => first | omega | (simp; omega)
          intro w2 hrow2 hbel2 _
          go_wp2
          go_roundw
          case rel => exact ⟨k + 1, L ++ [32], by omega, by go_num, by simp, by simp; omega, hrow2, hbel2, HE⟩
          case measure => simp [intOf]; omega
        · have HE : Hid (p1 (bytesOf s) = (L ++ [32]) ++ p1 ((bytesOf s).drop (k + 1))) := by rw [Hid, HL.out, HD.out, p1_blank _ N1.out N2.out]; simp
          clear HL HD
          go_wp2_with (first | (at_builtin; go_must (refine wpList_push w wr w.heap.size rfl _ _ 46 rfl i0 Try.underlying46 hi hz1 _ _ _ L 32 rfl (by simp) rfl hrow.out hbel.out ?a7 ?b7 ?_)))
          try case a7 => simp
          try case b7 => first | omega | (simp; omega)
          intro w2 hrow2 hbel2 _
          go_wp2
          go_roundw
          case rel => exact ⟨k + 1, L ++ [32], by omega, by go_num, by simp, by simp; omega, hrow2, hbel2, HE⟩
          case measure => simp [intOf]; omega
        · have HE : Hid (p1 (bytesOf s) = (L ++ [32]) ++ p1 ((bytesOf s).drop (k + 1))) := by rw [Hid, HL.out, HD.out, p1_blank _ N1.out N2.out]; simp
          clear HL HD
          go_wp2_with (first | (at_builtin; go_must (refine wpList_push w wr w.heap.size rfl _ _ 46 rfl i0 Try.underlying46 hi hz1 _ _ _ L 32 rfl (by simp) rfl hrow.out hbel.out ?a8 ?b8 ?_)))
          try case a8 => simp
          try case b8 => first | omega | (simp; omega)
          intro w2 hrow2 hbel2 _
          go_wp2
          go_roundw
          case rel => exact ⟨k + 1, L ++ [32], by omega, by go_num, by simp, by simp; omega, hrow2, hbel2, HE⟩
          case measure => simp [intOf]; omega
      · rcases hc with rfl | rfl
        · have HE : Hid (p1 (bytesOf s) = (L ++ [47]) ++ p1 ((bytesOf s).drop (k + 1))) := by rw [Hid, HL.out, HD.out, p1_other _ (by decide) (by decide), show low 47 = 47 by decide]; simp
          clear HL HD
          go_wp2_with (first | (at_builtin; go_must (refine wpList_push w wr w.heap.size rfl _ _ 46 rfl i0 Try.underlying46 hi hz1 _ _ _ L 47 rfl (by simp) rfl hrow.out hbel.out ?a9 ?b9 ?_)))
          try case a9 => simp
          try case b9 => first | omega | (simp; omega)
          intro w2 hrow2 hbel2 _
          go_wp2
          go_roundw
          case rel => exact ⟨k + 1, L ++ [47], by omega, by go_num, by simp, by simp; omega, hrow2, hbel2, HE⟩
          case measure => simp [intOf]; omega
        · have HE : Hid (p1 (bytesOf s) = (L ++ [40]) ++ p1 ((bytesOf s).drop (k + 1))) := by rw [Hid, HL.out, HD.out, p1_other _ (by decide) (by decide), show low 40 = 40 by decide]; simp
          clear HL HD
          go_wp2_with (first | (at_builtin; go_must (refine wpList_push w wr w.heap.size rfl _ _ 46 rfl i0 Try.underlying46 hi hz1 _ _ _ L 40 rfl (by simp) rfl hrow.out hbel.out ?a10 ?b10 ?_)))
          try case a10 => simp
          try case b10 => first | omega | (simp; omega)
          intro w2 hrow2 hbel2 _
          go_wp2
          go_roundw
          case rel => exact ⟨k + 1, L ++ [40], by omega, by go_num, by simp, by simp; omega, hrow2, hbel2, HE⟩
          case measure => simp [intOf]; omega
      · have N1 : Hid (isDrop c = false) := by simp [Hid, isDrop]; omega
        have N2 : Hid (isBlank c = false) := by simp [Hid, isBlank]; omega
        have N4 : Hid (low c = c - 65 + 97) := by unfold low; rw [Hid, if_pos (by omega)]; omega
        have e92 : (c == 92) = false := beq_eq_false_iff_ne.2 (by omega)
        have e34 : (c == 34) = false := beq_eq_false_iff_ne.2 (by omega)
        have e39 : (c == 39) = false := beq_eq_false_iff_ne.2 (by omega)
        have e94 : (c == 94) = false := beq_eq_false_iff_ne.2 (by omega)
        have e44 : (c == 44) = false := beq_eq_false_iff_ne.2 (by omega)
        have e59 : (c == 59) = false := beq_eq_false_iff_ne.2 (by omega)
        have e32 : (c == 32) = false := beq_eq_false_iff_ne.2 (by omega)
        have e9 : (c == 9) = false := beq_eq_false_iff_ne.2 (by omega)
        have e10 : (c == 10) = false := beq_eq_false_iff_ne.2 (by omega)
        have e11 : (c == 11) = false := beq_eq_false_iff_ne.2 (by omega)
        have e12 : (c == 12) = false := beq_eq_false_iff_ne.2 (by omega)
        have e13 : (c == 13) = false := beq_eq_false_iff_ne.2 (by omega)
        obtain ⟨hu1, hu2⟩ := hc
        have HE : Hid (p1 (bytesOf s) = (L ++ [(c - 65 + 97)]) ++ p1 ((bytesOf s).drop (k + 1))) := by rw [Hid, HL.out, HD.out, p1_other _ N1.out N2.out, N4.out]; simp
        clear HL HD
        go_wp2_with (first | (at_builtin; go_must (refine wpList_push w wr w.heap.size rfl _ _ 46 rfl i0 Try.underlying46 hi hz1 _ _ _ L (c - 65 + 97) rfl (by simp) rfl hrow.out hbel.out ?a11 ?b11 ?_)))
        try case a11 => simp
        try case b11 => first | omega | (simp; omega)
        intro w2 hrow2 hbel2 _
        go_wp2
        go_roundw
        case rel => exact ⟨k + 1, L ++ [(c - 65 + 97)], by omega, by go_num, by simp, by simp; omega, hrow2, hbel2, HE⟩
        case measure => simp [intOf]; omega
      · have N1 : Hid (isDrop c = false) := by simp [Hid, isDrop]; omega
        have N2 : Hid (isBlank c = false) := by simp [Hid, isBlank]; omega
        have N4 : Hid (low c = c) := by unfold low; rw [Hid, if_neg (by omega)]
        have e92 : (c == 92) = false := beq_eq_false_iff_ne.2 (by omega)
        have e34 : (c == 34) = false := beq_eq_false_iff_ne.2 (by omega)
        have e39 : (c == 39) = false := beq_eq_false_iff_ne.2 (by omega)
        have e94 : (c == 94) = false := beq_eq_false_iff_ne.2 (by omega)
        have e44 : (c == 44) = false := beq_eq_false_iff_ne.2 (by omega)
        have e59 : (c == 59) = false := beq_eq_false_iff_ne.2 (by omega)
        have e32 : (c == 32) = false := beq_eq_false_iff_ne.2 (by omega)
        have e9 : (c == 9) = false := beq_eq_false_iff_ne.2 (by omega)
        have e10 : (c == 10) = false := beq_eq_false_iff_ne.2 (by omega)
        have e11 : (c == 11) = false := beq_eq_false_iff_ne.2 (by omega)
        have e12 : (c == 12) = false := beq_eq_false_iff_ne.2 (by omega)
        have e13 : (c == 13) = false := beq_eq_false_iff_ne.2 (by omega)
        have d1 : decide (65 ≤ c) = false := decide_eq_false (by omega)
        clear hc
        have HE : Hid (p1 (bytesOf s) = (L ++ [c]) ++ p1 ((bytesOf s).drop (k + 1))) := by rw [Hid, HL.out, HD.out, p1_other _ N1.out N2.out, N4.out]; simp
        clear HL HD
        go_wp2_with (first | (at_builtin; go_must (refine wpList_push w wr w.heap.size rfl _ _ 46 rfl i0 Try.underlying46 hi hz1 _ _ _ L c rfl (by simp) rfl hrow.out hbel.out ?a12 ?b12 ?_)))
        try case a12 => simp
        try case b12 => first | omega | (simp; omega)
        intro w2 hrow2 hbel2 _
        go_wp2
        go_roundw
        case rel => exact ⟨k + 1, L ++ [c], by omega, by go_num, by simp, by simp; omega, hrow2, hbel2, HE⟩
        case measure => simp [intOf]; omega
      · have N1 : Hid (isDrop c = false) := by simp [Hid, isDrop]; omega
        have N2 : Hid (isBlank c = false) := by simp [Hid, isBlank]; omega
        have N4 : Hid (low c = c) := by unfold low; rw [Hid, if_neg (by omega)]
        have e92 : (c == 92) = false := beq_eq_false_iff_ne.2 (by omega)
        have e34 : (c == 34) = false := beq_eq_false_iff_ne.2 (by omega)
        have e39 : (c == 39) = false := beq_eq_false_iff_ne.2 (by omega)
        have e94 : (c == 94) = false := beq_eq_false_iff_ne.2 (by omega)
        have e44 : (c == 44) = false := beq_eq_false_iff_ne.2 (by omega)
        have e59 : (c == 59) = false := beq_eq_false_iff_ne.2 (by omega)
        have e32 : (c == 32) = false := beq_eq_false_iff_ne.2 (by omega)
        have e9 : (c == 9) = false := beq_eq_false_iff_ne.2 (by omega)
        have e10 : (c == 10) = false := beq_eq_false_iff_ne.2 (by omega)
        have e11 : (c == 11) = false := beq_eq_false_iff_ne.2 (by omega)
        have e12 : (c == 12) = false := beq_eq_false_iff_ne.2 (by omega)
        have e13 : (c == 13) = false := beq_eq_false_iff_ne.2 (by omega)
        have d1 : decide (c ≤ 90) = false := decide_eq_false (by omega)
        have d0 : 65 ≤ c := by omega
        clear hc
        have HE : Hid (p1 (bytesOf s) = (L ++ [c]) ++ p1 ((bytesOf s).drop (k + 1))) := by rw [Hid, HL.out, HD.out, p1_other _ N1.out N2.out, N4.out]; simp
        clear HL HD
        go_wp2_with (first | (at_builtin; go_must (refine wpList_push w wr w.heap.size rfl _ _ 46 rfl i0 Try.underlying46 hi hz1 _ _ _ L c rfl (by simp) rfl hrow.out hbel.out ?a13 ?b13 ?_)))
        try case a13 => simp
        try case b13 => first | omega | (simp; omega)
        intro w2 hrow2 hbel2 _
        go_wp2
        go_roundw
        case rel => exact ⟨k + 1, L ++ [c], by omega, by go_num, by simp, by simp; omega, hrow2, hbel2, HE⟩
        case measure => simp [intOf]; omega

    · have hki : decide ((k : Int) < (s.size : Int)) = false := decide_eq_false (by omega)
      obtain ⟨A, hA⟩ : ∃ A, A = L := ⟨_, rfl⟩
      subst hA
      have HA : Hid (p1 (bytesOf s) = A) := by rw [Hid, HL.out, bytesOf_end s k hlt]; simp [p1]
      have hAs : A.length ≤ 1048576 := by omega
      clear HL
      obtain ⟨wo, hwo⟩ : ∃ wo : World, wo = wr := ⟨_, rfl⟩
      subst hwo
      have hAlt : w.heap.size < wo.heap.size := hrow.out.lt
      go_wp2_with (first | (at_make; refine wpList_make_own _ rfl _ _ 46 rfl w.heap.size 5 i0 (.int .u8 0) 1 Try.underlying46 hi hz0 hz1 _ _ _ A.length rfl rfl ?c5 ?c6 ?c7 ?c8 ?_))
      try case c5 => rfl
      try case c6 => first | omega | (rw [hz2]; omega)
      try case c7 => unfold maxLen; omega
      try case c8 => omega
      intro w3 hown3 hgrow3
      have hrowM : Hid (Row w.heap.size wo.heap.size A.length [] w3) := Row.made hown3
      have hbelM : Hid (Below w.heap.size w w3) := Below.made hbel.out hgrow3 (by omega)
      have hrowA : Hid (Row w.heap.size w.heap.size s.size A w3) := hrow.out.others (Others.made (g := wo.heap.size) hgrow3) (by omega)
      clear hown3 hgrow3 hrow hbel
      go_wp2_with fail
      go_loopw [6, 7] (fun v6 v7 wr => ∃ (k2 : Nat) (M : List Int), k2 ≤ A.length ∧ v7 = .int .i64 k2 ∧ v6 = .slice (some ⟨wo.heap.size, 0, none⟩) M.length A.length ∧ M.length ≤ k2 ∧
          Hid (Row w.heap.size w.heap.size s.size A wr) ∧ Hid (Row w.heap.size wo.heap.size A.length M wr) ∧ Hid (Below w.heap.size w wr) ∧ Hid (f2 false A = M ++ f2 (lastSp M) (A.drop k2))) (fun _ v7 _ => A.length - (intOf v7).toNat)
      case atStart => exact ⟨0, [], by omega, rfl, rfl, by simp, hrowA, hrowM, hbelM, by simp [Hid, lastSp]⟩
      case round =>
        clear hrowA hrowM hbelM
        obtain ⟨k2, M, hk2, rfl, rfl, hMk, hrowA, hrowM, hbelM, HL⟩ := hrel
        by_cases hlt : k2 < A.length
        · have hki : (k2 : Int) < (A.length : Int) := by omega
          obtain ⟨x, hx⟩ : ∃ x : Int, x = A.getD k2 0 := ⟨_, rfl⟩
          have HX : Hid (x = A.getD k2 0) := hx
          have hce : wr.cell? ⟨w.heap.size, k2, none⟩ = some (.int .u8 x) := by rw [hx]; exact hrowA.out.cell k2 hlt
          clear hx
          by_cases hx32 : x = 32
          · have hxb : (x == 32) = true := beq_iff_eq.2 hx32
            by_cases hM0 : 0 < M.length
            · have hM0i : (0 : Int) < (M.length : Int) := by omega
              obtain ⟨y, hy⟩ : ∃ y : Int, y = M.getD (M.length - 1) 0 := ⟨_, rfl⟩
              have hcl : wr.cell? ⟨wo.heap.size, M.length - 1, none⟩ = some (.int .u8 y) := by rw [hy]; exact hrowM.out.cell _ (by omega)
              by_cases hy32 : y = 32
              · have hyb : (y == 32) = true := beq_iff_eq.2 hy32
                have HE : Hid (f2 false A = M ++ f2 (lastSp M) (A.drop (k2 + 1))) := two_skip HL.out hlt HX.out hx32 (by rw [lastSp, decide_eq_true_eq]; exact ⟨hM0, by rw [← hy]; exact hy32⟩)
                clear hx32 hy32 hy HL HX
                go_wp2
                go_roundw
                case rel => exact ⟨k2 + 1, M, by omega, by go_num, rfl, by omega, hrowA, hrowM, hbelM, HE⟩
                case measure => simp [intOf]; omega

              · have hyb : (y == 32) = false := beq_eq_false_iff_ne.2 hy32
                have HE : Hid (f2 false A = (M ++ [x]) ++ f2 (lastSp (M ++ [x])) (A.drop (k2 + 1))) := two_keep HL.out hlt HX.out (by rintro ⟨_, h⟩; rw [lastSp, decide_eq_true_eq] at h; exact hy32 (by rw [hy]; exact h.2))
                clear hx32 hy32 hy
                clear HL HX
                go_wp2_with (first | (at_builtin; go_must (refine wpList_push w wr w.heap.size rfl _ _ 46 rfl i0 Try.underlying46 hi hz1 _ _ _ M x rfl (by simp) rfl hrowM.out hbelM.out ?a14 ?b14 ?_)))
                try case a14 => simp
                try case b14 => first | omega | (simp; omega)
                intro w2 hrow2 hbel2 hoth
                have hrowA2 : Hid (Row w.heap.size w.heap.size s.size A w2) := hrowA.out.others hoth.out (by omega)
                clear hoth hce
                try clear hcl
                go_wp2
                go_roundw
                case rel => exact ⟨k2 + 1, M ++ [x], by omega, by go_num, by simp, by simp; omega, hrowA2, hrow2, hbel2, HE⟩
                case measure => simp [intOf]; omega

            · have hM0i : decide ((0 : Int) < (M.length : Int)) = false := decide_eq_false (by omega)
              have HE : Hid (f2 false A = (M ++ [x]) ++ f2 (lastSp (M ++ [x])) (A.drop (k2 + 1))) := two_keep HL.out hlt HX.out (by rintro ⟨_, h⟩; rw [lastSp, decide_eq_true_eq] at h; omega)
              clear hx32
              clear HL HX
              go_wp2_with (first | (at_builtin; go_must (refine wpList_push w wr w.heap.size rfl _ _ 46 rfl i0 Try.underlying46 hi hz1 _ _ _ M x rfl (by simp) rfl hrowM.out hbelM.out ?a15 ?b15 ?_)))
              try case a15 => simp
              try case b15 => first | omega | (simp; omega)
              intro w2 hrow2 hbel2 hoth
              have hrowA2 : Hid (Row w.heap.size w.heap.size s.size A w2) := hrowA.out.others hoth.out (by omega)
              clear hoth hce
              try clear hcl
              go_wp2
              go_roundw
              case rel => exact ⟨k2 + 1, M ++ [x], by omega, by go_num, by simp, by simp; omega, hrowA2, hrow2, hbel2, HE⟩
              case measure => simp [intOf]; omega

          · have hxb : (x == 32) = false := beq_eq_false_iff_ne.2 hx32
            have HE : Hid (f2 false A = (M ++ [x]) ++ f2 (lastSp (M ++ [x])) (A.drop (k2 + 1))) := two_keep HL.out hlt HX.out (fun h => hx32 h.1)
            clear hx32
            clear HL HX
            go_wp2_with (first | (at_builtin; go_must (refine wpList_push w wr w.heap.size rfl _ _ 46 rfl i0 Try.underlying46 hi hz1 _ _ _ M x rfl (by simp) rfl hrowM.out hbelM.out ?a16 ?b16 ?_)))
            try case a16 => simp
            try case b16 => first | omega | (simp; omega)
            intro w2 hrow2 hbel2 hoth
            have hrowA2 : Hid (Row w.heap.size w.heap.size s.size A w2) := hrowA.out.others hoth.out (by omega)
            clear hoth hce
            try clear hcl
            go_wp2
            go_roundw
            case rel => exact ⟨k2 + 1, M ++ [x], by omega, by go_num, by simp, by simp; omega, hrowA2, hrow2, hbel2, HE⟩
            case measure => simp [intOf]; omega

        · have hki : decide ((k2 : Int) < (A.length : Int)) = false := decide_eq_false (by omega)
          have HM : Hid (f2 false A = M) := by rw [Hid, HL.out, List.drop_eq_nil_of_le (by omega)]; simp [f2]
          clear HL
          obtain ⟨wq, hwq⟩ : ∃ wq : World, wq = wr := ⟨_, rfl⟩
          subst hwq
          have hMlt : wo.heap.size < wq.heap.size := hrowM.out.lt
          go_wp2_with (first | (at_make; refine wpList_make_own _ rfl _ _ 46 rfl w.heap.size 5 i0 (.int .u8 0) 1 Try.underlying46 hi hz0 hz1 _ _ _ M.length rfl rfl ?c9 ?c10 ?c11 ?c12 ?_))
          try case c9 => rfl
          try case c10 => first | omega | (rw [hz2]; omega)
          try case c11 => unfold maxLen; omega
          try case c12 => omega
          intro w4 hown4 hgrow4
          have hrowN : Hid (Row w.heap.size wq.heap.size M.length [] w4) := Row.made hown4
          have hbelN : Hid (Below w.heap.size w w4) := Below.made hbelM.out hgrow4 (by omega)
          have hrowM4 : Hid (Row w.heap.size wo.heap.size A.length M w4) := hrowM.out.others (Others.made (g := wq.heap.size) hgrow4) (by omega)
          clear hown4 hgrow4 hrowM hbelM hrowA
          go_wp2_with fail
          go_loopw [8, 9] (fun v8 v9 wr => ∃ (k3 : Nat) (N : List Int), k3 ≤ M.length ∧ v9 = .int .i64 k3 ∧ v8 = .slice (some ⟨wq.heap.size, 0, none⟩) N.length M.length ∧ N.length ≤ k3 ∧
              Hid (Row w.heap.size wo.heap.size A.length M wr) ∧ Hid (Row w.heap.size wq.heap.size M.length N wr) ∧ Hid (Below w.heap.size w wr) ∧ Hid (f3 M = N ++ f3 (M.drop k3))) (fun _ v9 _ => M.length - (intOf v9).toNat)
          case atStart => exact ⟨0, [], by omega, rfl, rfl, by simp, hrowM4, hrowN, hbelN, by simp [Hid]⟩
          case round =>
            clear hrowM4 hrowN hbelN
            obtain ⟨k3, N, hk3, rfl, rfl, hNk, hrowM4, hrowN, hbelN, HL⟩ := hrel
            by_cases hlt : k3 < M.length
            · have hki : (k3 : Int) < (M.length : Int) := by omega
              obtain ⟨x, hx⟩ : ∃ x : Int, x = M.getD k3 0 := ⟨_, rfl⟩
              have HX : Hid (x = M.getD k3 0) := hx
              have hce : wr.cell? ⟨wo.heap.size, k3, none⟩ = some (.int .u8 x) := by rw [hx]; exact hrowM4.out.cell k3 hlt
              clear hx
              by_cases hx32 : x = 32
              · have hxb : (x == 32) = true := beq_iff_eq.2 hx32
                by_cases hM0 : k3 + 1 < M.length
                · have hM0i : (k3 : Int) + 1 < (M.length : Int) := by omega
                  obtain ⟨y, hy⟩ : ∃ y : Int, y = M.getD (k3 + 1) 0 := ⟨_, rfl⟩
                  have hcl : wr.cell? ⟨wo.heap.size, k3 + 1, none⟩ = some (.int .u8 y) := by rw [hy]; exact hrowM4.out.cell _ hM0
                  have HH : Hid (headMark (M.drop (k3 + 1)) = isMark y) := by rw [Hid, headMark_at hM0, hy]
                  clear hy
                  by_cases hy47 : y = 47
                  · have hyb : (y == 47) = true := beq_iff_eq.2 hy47
                    have HE : Hid (f3 M = N ++ f3 (M.drop (k3 + 1))) := three_skip HL.out hlt HX.out ⟨hx32, by rw [HH.out, hy47]; decide⟩
                    clear hx32 hy47 HL HX
                    go_wp2
                    go_roundw
                    case rel => exact ⟨k3 + 1, N, by omega, by go_num, rfl, by omega, hrowM4, hrowN, hbelN, HE⟩
                    case measure => simp [intOf]; omega

                  · have hyb : (y == 47) = false := beq_eq_false_iff_ne.2 hy47
                    by_cases hy40 : y = 40
                    · have hyb4 : (y == 40) = true := beq_iff_eq.2 hy40
                      have HE : Hid (f3 M = N ++ f3 (M.drop (k3 + 1))) := three_skip HL.out hlt HX.out ⟨hx32, by rw [HH.out, hy40]; decide⟩
                      clear hx32 hy47 hy40 HL HX
                      go_wp2
                      go_roundw
                      case rel => exact ⟨k3 + 1, N, by omega, by go_num, rfl, by omega, hrowM4, hrowN, hbelN, HE⟩
                      case measure => simp [intOf]; omega

                    · have hyb4 : (y == 40) = false := beq_eq_false_iff_ne.2 hy40
                      have HE : Hid (f3 M = (N ++ [x]) ++ f3 (M.drop (k3 + 1))) := three_keep HL.out hlt HX.out (by rintro ⟨_, h⟩; rw [HH.out, isMark, decide_eq_true_eq] at h; omega)
                      clear hx32 hy47 hy40
                      clear HL HX
                      go_wp2_with (first | (at_builtin; go_must (refine wpList_push w wr w.heap.size rfl _ _ 46 rfl i0 Try.underlying46 hi hz1 _ _ _ N x rfl (by simp) rfl hrowN.out hbelN.out ?a17 ?b17 ?_)))
                      try case a17 => simp
                      try case b17 => first | omega | (simp; omega)
                      intro w2 hrow2 hbel2 hoth
                      have hrowM2 : Hid (Row w.heap.size wo.heap.size A.length M w2) := hrowM4.out.others hoth.out (by omega)
                      clear hoth hce
                      try clear hcl
                      go_wp2
                      go_roundw
                      case rel => exact ⟨k3 + 1, N ++ [x], by omega, by go_num, by simp, by simp; omega, hrowM2, hrow2, hbel2, HE⟩
                      case measure => simp [intOf]; omega

                · have hM0i : decide ((k3 : Int) + 1 < (M.length : Int)) = false := decide_eq_false (by omega)
                  have HE : Hid (f3 M = (N ++ [x]) ++ f3 (M.drop (k3 + 1))) := three_keep HL.out hlt HX.out (by rintro ⟨_, h⟩; rw [headMark_end hM0] at h; cases h)
                  clear hx32
                  clear HL HX
                  go_wp2_with (first | (at_builtin; go_must (refine wpList_push w wr w.heap.size rfl _ _ 46 rfl i0 Try.underlying46 hi hz1 _ _ _ N x rfl (by simp) rfl hrowN.out hbelN.out ?a18 ?b18 ?_)))
                  try case a18 => simp
                  try case b18 => first | omega | (simp; omega)
                  intro w2 hrow2 hbel2 hoth
                  have hrowM2 : Hid (Row w.heap.size wo.heap.size A.length M w2) := hrowM4.out.others hoth.out (by omega)
                  clear hoth hce
                  try clear hcl
                  go_wp2
                  go_roundw
                  case rel => exact ⟨k3 + 1, N ++ [x], by omega, by go_num, by simp, by simp; omega, hrowM2, hrow2, hbel2, HE⟩
                  case measure => simp [intOf]; omega

              · have hxb : (x == 32) = false := beq_eq_false_iff_ne.2 hx32
                have HE : Hid (f3 M = (N ++ [x]) ++ f3 (M.drop (k3 + 1))) := three_keep HL.out hlt HX.out (fun h => hx32 h.1)
                clear hx32
                clear HL HX
                go_wp2_with (first | (at_builtin; go_must (refine wpList_push w wr w.heap.size rfl _ _ 46 rfl i0 Try.underlying46 hi hz1 _ _ _ N x rfl (by simp) rfl hrowN.out hbelN.out ?a19 ?b19 ?_)))
                try case a19 => simp
                try case b19 => first | omega | (simp; omega)
                intro w2 hrow2 hbel2 hoth
                have hrowM2 : Hid (Row w.heap.size wo.heap.size A.length M w2) := hrowM4.out.others hoth.out (by omega)
                clear hoth hce
                try clear hcl
                go_wp2
                go_roundw
                case rel => exact ⟨k3 + 1, N ++ [x], by omega, by go_num, by simp, by simp; omega, hrowM2, hrow2, hbel2, HE⟩
                case measure => simp [intOf]; omega

            · have hki : decide ((k3 : Int) < (M.length : Int)) = false := decide_eq_false (by omega)
              have HN : Hid (f3 M = N) := by rw [Hid, HL.out, List.drop_eq_nil_of_le (by omega)]; simp [f3]
              have HT : Hid (f3 (f2 false (p1 (bytesOf s))) = N) := by rw [Hid, HA.out, HM.out, HN.out]
              clear HL
              have hcv := run_convert_bytes_arg (P := Try.prog) wr 46 5 Try.underlying46 Try.underlying5 wq.heap.size 0 N.length M.length N rfl (fun i hi => by simpa using hrowN.out.cell i hi) 9 Try.underlying9
              go_wp2
              go_ret
              exact ⟨by rw [HT.out]; rfl, hbelN.out⟩



end Go.Proofs.Qxb6601111a
