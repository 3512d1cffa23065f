import Derived.Test.Qxb6601111aAltF
namespace Go.Proofs.Qxb6601111a
open Go.RowKit
set_option linter.unusedVariables false

/-- nothing old has turned; d owns D -/
def Ow (w : World) (a : Option Addr) (cap : Nat) (D : List ByteArray) (wr : World) : Prop := Below w.heap.size w wr ∧ OwnS w.heap.size a cap D wr
theorem Ow.grown {w wr w' : World} {a a' : Option Addr} {cap cap' : Nat} {D D' : List ByteArray} (h : Ow w a cap D wr) (hg : GrownS a wr w') (ho : OwnS w.heap.size a' cap' D' w') : Ow w a' cap' D' w' := by
  obtain ⟨h1, h4⟩ := h
  refine ⟨h1.grown hg h1.size (fun k hk => ?_), ho⟩
  cases a with
  | none => cases hk
  | some x => have := (h4.addr x rfl).1; simp at hk; omega

/-- what distinctInOrder gives at the limit 4096 -/
def DRes (ks : List (Int × List ByteArray)) (d : List ByteArray) : Prop := ((dist ks).length ≤ 4096 → d = dist ks) ∧ (4096 < (dist ks).length → 4096 < d.length)

set_option maxHeartbeats 1000000 in
theorem distinct_any (a : Option Addr) (cap : Nat) (ps : List Prt) (w : World) (hn : 32 * ps.length + wt ps ≤ 1048576) (h : PartsAt w a ps) :
    Calls Try.prog 24 #[.slice a ps.length cap, .int .i64 4096] w fun e w' => ∃ a' c' d, e = .returned (.slice a' d.length c') ∧ Ow w a' c' d w' ∧ DRes (ps.map key) d ∧ d.length ≤ 65536 := by
  obtain ⟨i9, hi9, hz0, hz1, hz2⟩ := info_parts Try.info9
  have HP : Hid (PartsAt w a ps) := h
  have hn1 : ps.length ≤ 32768 := by omega
  have hcnt : cnt (ps.map key) ≤ 65536 := by have := cnt_wt ps; omega
  have hdc := dist_cnt (ps.map key)
  clear h
  go_enter Try.func24, Try.ntmps24
  go_wp2
  go_loopw [5, 6] (fun v5 v6 wr => ∃ (i : Nat) (a2 : Option Addr) (c2 : Nat) (D : List ByteArray), i ≤ ps.length ∧ v6 = .int .i64 i ∧ v5 = .slice a2 D.length c2 ∧ D.length ≤ 65536 ∧ Hid (D = dist ((ps.map key).take i)) ∧ Hid (Ow w a2 c2 D wr)) (fun _ v6 _ => ps.length - (intOf v6).toNat)
  case atStart => exact ⟨0, none, 0, [], by omega, rfl, rfl, by simp, rfl, Below.refl _ _, OwnS.nil _ _⟩
  case round =>
    obtain ⟨i, a2, c2, D, hi6, rfl, rfl, hDl, HD, HO⟩ := hrel
    by_cases hlt : i < ps.length
    · have hki : (i : Int) < (ps.length : Int) := by omega
      obtain ⟨b, off, p, rfl, hp, hc0, hc1, hst⟩ := HP.out i hlt
      have hd1 : wr.cell? ⟨b, off + i * 2 + 1, none⟩ = some (.slice p.addr p.ss.length p.cap) := (HO.out.1.cell (p := ⟨b, off + i * 2 + 1, none⟩) (World.block_lt_of_cell? _ _ hc1)).trans hc1
      have hpl : p.ss.length ≤ 65536 := by have := wt_mem (List.mem_of_getElem? hp); omega
      have HST : Hid (StrsAt w p.addr p.ss) := hst
      have HKI : Hid ((ps.map key)[i]? = some (p.kind, p.ss)) := key_at hp
      clear hst hp hc0 hc1
      obtain ⟨kd, pa, pc, ss⟩ := p
      dsimp only at hd1 hpl HST HKI
      have HD2 : Hid (dist ((ps.map key).take (i + 1)) = addAll D ss) := by rw [Hid, take_snoc' HKI.out, dist_snoc, ← HD.out]
      have HDL : Hid ((addAll D ss).length ≤ (dist (ps.map key)).length) := by
        have h1 := dist_take_le (ps.map key) (i + 1)
        rwa [HD2.out] at h1
      go_wp2
      go_loopw [5, 8] (fun v5 v8 wr => ∃ (j : Nat) (a3 : Option Addr) (c3 : Nat) (E : List ByteArray), j ≤ ss.length ∧ v8 = .int .i64 j ∧ v5 = .slice a3 E.length c3 ∧ E.length ≤ 65536 ∧ Hid (E = addAll D (ss.take j)) ∧ Hid (Ow w a3 c3 E wr)) (fun _ v8 _ => ss.length - (intOf v8).toNat)
      case atStart => exact ⟨0, a2, c2, D, by omega, rfl, rfl, by omega, by simp [Hid, addAll], HO⟩
      case round =>
        clear HO hd1
        obtain ⟨j, a3, c3, E, hj, rfl, rfl, hE, HE, HO⟩ := hrel
        have HEL : Hid (E.length ≤ (dist (ps.map key)).length) := by
          have h1 := (addAll_length E (ss.drop j)).1
          have h2 : addAll E (ss.drop j) = addAll D ss := by rw [HE.out, addAll, addAll, addAll, ← List.foldl_append, List.take_append_drop]
          rw [h2] at h1
          exact Nat.le_trans h1 HDL.out
        by_cases hjl : j < ss.length
        · have hji : (j : Int) < (ss.length : Int) := by omega
          by_cases h4096 : 4096 < E.length
          · have HR : Hid (DRes (ps.map key) E) := ⟨fun h => by have := HEL.out; omega, fun _ => h4096⟩
            go_wp2
            go_ret
            exact ⟨a3, c3, E, rfl, HO.out, HR.out, hE⟩
          · have h4096d : decide ((4096 : Int) < (E.length : Int)) = false := decide_eq_false (by omega)
            obtain ⟨t, ht⟩ : ∃ t, t = ss.getD j ByteArray.empty := ⟨_, rfl⟩
            obtain ⟨b', off', hx, hce⟩ := (HST.out.below HO.out.1) j hjl
            subst hx
            rw [← ht] at hce
            have HE2 : Hid (addNew E t = addAll D (ss.take (j + 1))) := by
              have e2 : ss.take (j + 1) = ss.take j ++ [t] := by rw [List.take_succ_eq_append_getElem hjl, ht]; simp [List.getD, hjl]
              rw [Hid, e2, addAll_snoc, ← HE.out]
            clear ht
            go_wp2_with fail
            refine (contains_any a3 c3 E t _ (by omega) HO.out.2.strs).mono ?_
            rintro e w' ⟨rfl, hw⟩
            obtain rfl := hw
            cases hq : hasL E t
            · have HE3 : Hid (E ++ [t] = addAll D (ss.take (j + 1))) := by rw [Hid, ← HE2.out, addNew, if_neg (by rw [hq]; decide)]
              go_wp2_with (first | (at_builtin; go_must (refine wpList_pushS wr w.heap.size rfl _ _ 29 rfl i9 Try.underlying29 hi9 hz0 hz1 hz2 a3 c3 E t rfl rfl HO.out.2 HO.out.1.size ?m2 (by omega) ?_)))
              try case m2 => simp
              intro a5 c5 w5 ho5 hg5
              have HO5 : Hid (Ow w a5 c5 (E ++ [t]) w5) := HO.out.grown hg5.out ho5.out
              clear ho5 hg5 hq hce
              go_wp2
              go_roundw
              case rel => exact ⟨j + 1, a5, c5, E ++ [t], by omega, by go_num, by simp, by simp; omega, HE3, HO5⟩
              case measure => simp [intOf]; omega
            · have HE3 : Hid (E = addAll D (ss.take (j + 1))) := by rw [Hid, ← HE2.out, addNew, if_pos hq]
              go_wp2
              go_roundw
              case rel => exact ⟨j + 1, a3, c3, E, by omega, by go_num, rfl, by omega, HE3, HO⟩
              case measure => simp [intOf]; omega
        · have hji : decide ((j : Int) < (ss.length : Int)) = false := decide_eq_false (by omega)
          have HE2 : Hid (E = dist ((ps.map key).take (i + 1))) := by rw [Hid, HD2.out, HE.out, List.take_of_length_le (by omega)]
          go_wp2
          go_roundw
          case rel => exact ⟨i + 1, a3, c3, E, by omega, by go_num, rfl, by omega, HE2, HO⟩
          case measure => simp [intOf]; omega
    · have hki : decide ((i : Int) < (ps.length : Int)) = false := decide_eq_false (by omega)
      have HD2 : Hid (D = dist (ps.map key)) := by rw [Hid, HD.out, List.take_of_length_le (by simp; omega)]
      have HR : Hid (DRes (ps.map key) D) := ⟨fun _ => HD2.out, fun h => by rw [HD2.out]; exact h⟩
      go_wp2
      go_ret
      exact ⟨a2, c2, D, rfl, HO.out, HR.out, hDl⟩

theorem exact_take {ks : List (Int × List ByteArray)} {i : Nat} {k : Int × List ByteArray} (h : ks[i]? = some k) : exactAll (ks.take (i + 1)) = (exactAll (ks.take i) && (k.1 == 1)) := by
  unfold exactAll
  rw [take_snoc' h, List.all_append]
  simp only [List.all_cons, List.all_nil, Bool.and_true]
theorem needles_take {ks : List (Int × List ByteArray)} {i : Nat} {k : Int × List ByteArray} (h : ks[i]? = some k) : needlesAll (ks.take (i + 1)) = (needlesAll (ks.take i) && needleOk k) := by
  unfold needlesAll
  rw [take_snoc' h, List.all_append]
  simp only [List.all_cons, List.all_nil, Bool.and_true]
theorem strs_nil (w : World) : StrsAt w none [] := fun j hj => by simp at hj

set_option maxHeartbeats 1000000 in
theorem modelAlt_any (a : Option Addr) (cap : Nat) (ps : List Prt) (w : World) (hn : 32 * ps.length + wt ps ≤ 1048576) (h : PartsAt w a ps) :
    Calls Try.prog 13 #[.slice a ps.length cap] w fun e w' => ∃ a' c', e = .returned (.tuple #[.int .i64 (altK (ps.map key)), .slice a' (altD (ps.map key)).length c']) ∧ StrsAt w' a' (altD (ps.map key)) ∧ Below w.heap.size w w' := by
  have HP : Hid (PartsAt w a ps) := h
  have HN : Hid (32 * ps.length + wt ps ≤ 1048576) := hn
  have hn1 : ps.length ≤ 32768 := by omega
  clear h
  go_enter Try.func13, Try.ntmps13
  go_wp2_with fail
  refine (distinct_any a cap ps w HN.out HP.out).mono ?_
  rintro e w1 ⟨a1, c1, d, rfl, ho, hr, hdl⟩
  have HO : Hid (Ow w a1 c1 d w1) := ho
  have HR : Hid (DRes (ps.map key) d) := hr
  clear ho hr
  go_wp2
  go_loop [5, 6, 7] (fun v5 v6 v7 => ∃ (i : Nat) (be bn : Bool), i ≤ ps.length ∧ v7 = .int .i64 i ∧ v5 = .bool be ∧ v6 = .bool bn ∧ Hid (be = exactAll ((ps.map key).take i)) ∧ Hid (bn = needlesAll ((ps.map key).take i))) (fun _ _ v7 => ps.length - (intOf v7).toNat)
  case atStart => exact ⟨0, true, true, by omega, rfl, rfl, rfl, rfl, rfl⟩
  case round =>
    obtain ⟨i, be, bn, hi7, rfl, rfl, rfl, HE, HNE⟩ := hrel
    by_cases hlt : i < ps.length
    · have hki : (i : Int) < (ps.length : Int) := by omega
      obtain ⟨b, off, p, rfl, hp, hc0, hc1, hst⟩ := HP.out i hlt
      have hd0 : w1.cell? ⟨b, off + i * 2, none⟩ = some (.int .i64 p.kind) := (HO.out.1.cell (p := ⟨b, off + i * 2, none⟩) (World.block_lt_of_cell? _ _ hc0)).trans hc0
      have hd1 : w1.cell? ⟨b, off + i * 2 + 1, none⟩ = some (.slice p.addr p.ss.length p.cap) := (HO.out.1.cell (p := ⟨b, off + i * 2 + 1, none⟩) (World.block_lt_of_cell? _ _ hc1)).trans hc1
      have hpl : p.ss.length ≤ 65536 := by have := wt_mem (List.mem_of_getElem? hp); omega
      have HST : Hid (StrsAt w1 p.addr p.ss) := hst.below HO.out.1
      have HKI : Hid ((ps.map key)[i]? = some (p.kind, p.ss)) := key_at hp
      clear hst hp hc0 hc1
      obtain ⟨kd, pa, pc, ss⟩ := p
      dsimp only at hd0 hd1 hpl HST HKI
      by_cases hk1 : kd = 1
      · have hb1 : (kd == 1) = true := beq_iff_eq.2 hk1
        have HE2 : Hid (be = exactAll ((ps.map key).take (i + 1))) := by rw [Hid, exact_take HKI.out, ← HE.out]; simp [hk1]
        have HN2 : Hid ((bn && !emptyIn ss) = needlesAll ((ps.map key).take (i + 1))) := by rw [Hid, needles_take HKI.out, ← HNE.out]; simp [needleOk, hk1]
        clear hk1
        go_wp2_with fail
        refine (contains_any pa pc ss ⟨#[]⟩ _ (by omega) HST.out).mono ?_
        rintro e w' ⟨rfl, hw⟩
        obtain rfl := hw
        rw [show hasL ss ⟨#[]⟩ = emptyIn ss from has_empty ss]
        cases hq : emptyIn ss
        · have HN3 : Hid (bn = needlesAll ((ps.map key).take (i + 1))) := by rw [Hid, ← HN2.out, hq]; simp
          go_wp2
          go_round
          case rel => exact ⟨i + 1, be, bn, by omega, by go_num, rfl, rfl, HE2, HN3⟩
          case measure => simp [intOf]; omega
        · have HN3 : Hid (false = needlesAll ((ps.map key).take (i + 1))) := by rw [Hid, ← HN2.out, hq]; simp
          go_wp2
          go_round
          case rel => exact ⟨i + 1, be, false, by omega, by go_num, rfl, rfl, HE2, HN3⟩
          case measure => simp [intOf]; omega
      · have hb1 : (kd == 1) = false := beq_eq_false_iff_ne.2 hk1
        have HE2 : Hid (false = exactAll ((ps.map key).take (i + 1))) := by rw [Hid, exact_take HKI.out]; simp [hk1]
        by_cases hk2 : kd = 2
        · have hb2 : (kd == 2) = true := beq_iff_eq.2 hk2
          have HN2 : Hid (bn = needlesAll ((ps.map key).take (i + 1))) := by rw [Hid, needles_take HKI.out, ← HNE.out]; simp [needleOk, hk2]
          clear hk1 hk2
          go_wp2
          go_round
          case rel => exact ⟨i + 1, false, bn, by omega, by go_num, rfl, rfl, HE2, HN2⟩
          case measure => simp [intOf]; omega
        · have hb2 : (kd == 2) = false := beq_eq_false_iff_ne.2 hk2
          have HN2 : Hid (false = needlesAll ((ps.map key).take (i + 1))) := by rw [Hid, needles_take HKI.out]; simp [needleOk, hk1, hk2]
          clear hk1 hk2
          go_wp2
          go_round
          case rel => exact ⟨i + 1, false, false, by omega, by go_num, rfl, rfl, HE2, HN2⟩
          case measure => simp [intOf]; omega
    · have hki : decide ((i : Int) < (ps.length : Int)) = false := decide_eq_false (by omega)
      have HE2 : Hid (be = exactAll (ps.map key)) := by rw [Hid, HE.out, List.take_of_length_le (by simp; omega)]
      have HN2 : Hid (bn = needlesAll (ps.map key)) := by rw [Hid, HNE.out, List.take_of_length_le (by simp; omega)]
      clear HE HNE
      have HZ : Hid (first (ps.map key) = false → (bn = false ∨ 4096 < d.length) → altK (ps.map key) = 0 ∧ altD (ps.map key) = []) := by
        intro hf hz
        have : needlesAll (ps.map key) = false ∨ 4096 < (dist (ps.map key)).length := by
          rcases hz with hz | hz
          · exact .inl (by rw [← HN2.out]; exact hz)
          · refine .inr ?_
            by_cases h : 4096 < (dist (ps.map key)).length
            · exact h
            · have := HR.out.1 (by omega); rw [this] at hz; exact hz
        simp [altK, altD, hf, this]
      have HT : Hid (first (ps.map key) = false → bn = true → ¬ 4096 < d.length → altK (ps.map key) = 2 ∧ altD (ps.map key) = d) := by
        intro hf hb hd
        have h1 : (dist (ps.map key)).length ≤ 4096 := by
          by_cases h : 4096 < (dist (ps.map key)).length
          · exact absurd (HR.out.2 h) hd
          · omega
        have h2 := HR.out.1 h1
        have h3 : needlesAll (ps.map key) = true := by rw [← HN2.out]; exact hb
        have h4 : ¬ 4096 < (dist (ps.map key)).length := by omega
        simp only [altK, altD, hf, h3, h4, h2]
        simp
      cases hf : first (ps.map key)
      · have hno : be = false ∨ d.length = 0 ∨ 64 < d.length := by
          cases hbe : be with
          | false => exact .inl rfl
          | true =>
            refine .inr ?_
            by_cases h : 4096 < (dist (ps.map key)).length
            · have := HR.out.2 h; omega
            · have hd := HR.out.1 (by omega)
              have he : exactAll (ps.map key) = true := by rw [← HE2.out]; exact hbe
              by_cases h0 : d.length = 0
              · exact .inl h0
              · by_cases h64 : 64 < d.length
                · exact .inr h64
                · have := first_true he (by intro e; rw [hd, e] at h0; simp at h0) (by rw [← hd]; omega)
                  rw [hf] at this
                  cases this
        have HF : Hid (first (ps.map key) = false) := hf
        clear hf
        cases bn
        · have HK := HZ.out HF.out (.inl rfl)
          have HK' : Hid (altK (ps.map key) = 0 ∧ altD (ps.map key) = []) := HK
          clear HK HZ HT
          cases be
          · go_wp2
            go_ret2
            rw [HK'.out.1, HK'.out.2]
            exact ⟨none, ⟨0, rfl⟩, strs_nil _, HO.out.1⟩
          · by_cases h1 : 1 ≤ d.length
            · have h64 : decide ((d.length : Int) ≤ 64) = false := decide_eq_false (by rcases hno with h | h | h <;> simp_all <;> omega)
              have h1i : (1 : Int) ≤ (d.length : Int) := by omega
              clear hno
              go_wp2
              go_ret2
              rw [HK'.out.1, HK'.out.2]
              exact ⟨none, ⟨0, rfl⟩, strs_nil _, HO.out.1⟩
            · have h1i : decide ((1 : Int) ≤ (d.length : Int)) = false := decide_eq_false (by omega)
              clear hno
              go_wp2
              go_ret2
              rw [HK'.out.1, HK'.out.2]
              exact ⟨none, ⟨0, rfl⟩, strs_nil _, HO.out.1⟩
        · by_cases h4096 : 4096 < d.length
          · have HK' : Hid (altK (ps.map key) = 0 ∧ altD (ps.map key) = []) := HZ.out HF.out (.inr h4096)
            have h4i : (4096 : Int) < (d.length : Int) := by omega
            have h64 : decide ((d.length : Int) ≤ 64) = false := decide_eq_false (by omega)
            have h1i : (1 : Int) ≤ (d.length : Int) := by omega
            clear HZ HT hno
            cases be
            · go_wp2
              go_ret2
              rw [HK'.out.1, HK'.out.2]
              exact ⟨none, ⟨0, rfl⟩, strs_nil _, HO.out.1⟩
            · go_wp2
              go_ret2
              rw [HK'.out.1, HK'.out.2]
              exact ⟨none, ⟨0, rfl⟩, strs_nil _, HO.out.1⟩
          · have HK' : Hid (altK (ps.map key) = 2 ∧ altD (ps.map key) = d) := HT.out HF.out rfl h4096
            have h4i : decide ((4096 : Int) < (d.length : Int)) = false := decide_eq_false (by omega)
            clear HZ HT
            cases be
            · clear hno
              go_wp2
              go_ret2
              rw [HK'.out.1, HK'.out.2]
              exact ⟨a1, ⟨c1, rfl⟩, HO.out.2.strs, HO.out.1⟩
            · by_cases h1 : 1 ≤ d.length
              · have h64 : decide ((d.length : Int) ≤ 64) = false := decide_eq_false (by rcases hno with h | h | h <;> simp_all <;> omega)
                have h1i : (1 : Int) ≤ (d.length : Int) := by omega
                clear hno
                go_wp2
                go_ret2
                rw [HK'.out.1, HK'.out.2]
                exact ⟨a1, ⟨c1, rfl⟩, HO.out.2.strs, HO.out.1⟩
              · have h1i : decide ((1 : Int) ≤ (d.length : Int)) = false := decide_eq_false (by omega)
                clear hno
                go_wp2
                go_ret2
                rw [HK'.out.1, HK'.out.2]
                exact ⟨a1, ⟨c1, rfl⟩, HO.out.2.strs, HO.out.1⟩
      · have hff : exactAll (ps.map key) = true ∧ 1 ≤ (dist (ps.map key)).length ∧ (dist (ps.map key)).length ≤ 64 := by simpa [first, Bool.and_eq_true, and_assoc] using hf
        have hd : d = dist (ps.map key) := HR.out.1 (by omega)
        have h1i : (1 : Int) ≤ (d.length : Int) := by rw [hd]; omega
        have h64 : (d.length : Int) ≤ 64 := by rw [hd]; omega
        have HK' : Hid (altK (ps.map key) = 1 ∧ altD (ps.map key) = d) := by simp [Hid, altK, altD, hf, hd]
        have hbe : be = true := by rw [HE2.out]; exact hff.1
        clear hff hd hf HZ HT
        subst hbe
        go_wp2
        go_ret2
        rw [HK'.out.1, HK'.out.2]
        exact ⟨a1, ⟨c1, rfl⟩, HO.out.2.strs, HO.out.1⟩

end Go.Proofs.Qxb6601111a
