import Derived.Test.Qxb6601111aAltE
import Derived.Deep.DeepCutAuto
namespace Go.Proofs.Qxb6601111a
open Go.RowKit
set_option linter.unusedVariables false

/-- alternateFacts in its first loop: nothing old has turned; the result's cell is as it was laid; the union owns D. -/
def Ph (w : World) (a : Option Addr) (cap : Nat) (D : List ByteArray) (wr : World) : Prop :=
  Below w.heap.size w wr ∧ w.heap.size < wr.heap.size ∧ wr.heap[w.heap.size]? = some (.cells #[.int .i64 0, .slice none 0 0] 43 (0, 0)) ∧ OwnS (w.heap.size + 1) a cap D wr

theorem OwnS.block {B : Nat} {a : Option Addr} {cap : Nat} {D : List ByteArray} {w w' : World} (h : OwnS B a cap D w) (hb : ∀ x, a = some x → w'.heap[x.block]? = w.heap[x.block]?) : OwnS B a cap D w' := by
  refine ⟨?_, h.2⟩
  rcases owns_addr h.1 with e | ⟨g, e, _, _⟩
  · subst e
    obtain ⟨h1, h2⟩ := h.1
    refine ⟨h1, .inl ?_⟩
    rcases h2 with h2 | ⟨g, c, cur, h', _⟩
    · exact h2
    · simp at h'
  · subst e
    exact owns_block h.1 (hb _ rfl)
theorem OwnS.addr {B : Nat} {a : Option Addr} {cap : Nat} {D : List ByteArray} {w : World} (h : OwnS B a cap D w) : ∀ x, a = some x → B ≤ x.block ∧ x.block < w.heap.size := by
  intro x hx
  rcases owns_addr h.1 with e | ⟨g, e, h1, h2⟩
  · rw [e] at hx; cases hx
  · rw [e] at hx; cases hx; exact ⟨h1, h2⟩

theorem Ph.start (w : World) : Ph w none 0 [] (w.alloc (.cells #[.int .i64 0, .slice none 0 0] 43)) :=
  ⟨(Below.refl _ _).alloc (Nat.le_refl _) _, by simp, heap_alloc_new _ _, OwnS.nil _ _⟩
theorem Ph.alloc {w wr : World} {a : Option Addr} {cap : Nat} {D : List ByteArray} (h : Ph w a cap D wr) (o : Obj) : Ph w a cap D (wr.alloc o) := by
  obtain ⟨h1, h2, h3, h4⟩ := h
  exact ⟨h1.alloc (by omega) o, by simp; omega, by rw [Below.heap_alloc _ _ _ h2]; exact h3, h4.block (fun x hx => Below.heap_alloc _ _ _ (h4.addr x hx).2)⟩
theorem Ph.forget {w wr : World} {a : Option Addr} {cap : Nat} {D : List ByteArray} (h : Ph w a cap D wr) : Ph w none 0 [] wr := ⟨h.1, h.2.1, h.2.2.1, OwnS.nil _ _⟩
theorem Ph.grown {w wr w' : World} {a a' : Option Addr} {cap cap' : Nat} {D D' : List ByteArray} (h : Ph w a cap D wr) (hg : GrownS a wr w') (ho : OwnS (w.heap.size + 1) a' cap' D' w') : Ph w a' cap' D' w' := by
  obtain ⟨h1, h2, h3, h4⟩ := h
  have hne : some w.heap.size ≠ a.map (·.block) := by
    intro e
    cases a with
    | none => cases e
    | some x => have := (h4.addr x rfl).1; simp at e; omega
  refine ⟨h1.grown hg (by omega) (fun k hk => ?_), Nat.lt_of_lt_of_le h2 hg.size, by rw [hg.block _ h2 hne]; exact h3, ho⟩
  cases a with
  | none => cases hk
  | some x => have := (h4.addr x rfl).1; simp at hk; omega
theorem Ph.size {w wr : World} {a : Option Addr} {cap : Nat} {D : List ByteArray} (h : Ph w a cap D wr) : w.heap.size + 1 ≤ wr.heap.size := h.2.1

theorem Ph.below {w wr wr' : World} {a : Option Addr} {cap : Nat} {D : List ByteArray} (h : Ph w a cap D wr) (hb : Below wr.heap.size wr wr') : Ph w a cap D wr' := by
  obtain ⟨h1, h2, h3, h4⟩ := h
  exact ⟨h1.trans (hb.mono (by omega)), Nat.lt_of_lt_of_le h2 hb.size, by rw [hb.block _ h2]; exact h3, h4.block (fun x hx => hb.block _ (h4.addr x hx).2)⟩
theorem Ph.cells {w wr : World} {a : Option Addr} {cap : Nat} {D : List ByteArray} (h : Ph w a cap D wr) :
    wr.cell? ⟨w.heap.size, 0, none⟩ = some (.int .i64 0) ∧ wr.cell? ⟨w.heap.size, 1, none⟩ = some (.slice none 0 0) ∧ wr.frozen? ⟨w.heap.size, 0, none⟩ = false ∧ wr.frozen? ⟨w.heap.size, 1, none⟩ = false := by
  have := h.2.2.1
  refine ⟨?_, ?_, ?_, ?_⟩ <;> simp [World.cell?, World.frozen?, this]
/-- the result's two cells written: the union still owns D -/
theorem Ph.store {w wr : World} {a : Option Addr} {cap : Nat} {D : List ByteArray} (h : Ph w a cap D wr) (u v : Value) :
    OwnS (w.heap.size + 1) a cap D ((wr.setCell ⟨w.heap.size, 0, none⟩ u).setCell ⟨w.heap.size, 1, none⟩ v) ∧ Below w.heap.size w ((wr.setCell ⟨w.heap.size, 0, none⟩ u).setCell ⟨w.heap.size, 1, none⟩ v) := by
  obtain ⟨h1, h2, h3, h4⟩ := h
  refine ⟨h4.block (fun x hx => ?_), (h1.setCell (p := ⟨w.heap.size, 0, none⟩) (Nat.le_refl _) _).setCell (p := ⟨w.heap.size, 1, none⟩) (Nat.le_refl _) _⟩
  have := (h4.addr x hx).1
  rw [Below.heap_setCell _ _ _ _ (by show x.block ≠ w.heap.size; omega), Below.heap_setCell _ _ _ _ (by show x.block ≠ w.heap.size; omega)]
theorem SetAt.below {B n : Nat} {D : List ByteArray} {wr wr' : World} (h : SetAt B n D wr) (hb : Below wr.heap.size wr wr') : SetAt B n D wr' :=
  World.ownsMap.kept h (row := none) ⟨hb.os, hb.tape, hb.output, hb.size, fun k hk _ => hb.block k hk⟩ (by simp)
theorem SetAt.grown {B n : Nat} {D E : List ByteArray} {wr w' : World} {C cap : Nat} {a : Option Addr} (h : SetAt B n D wr) (ho : OwnS C a cap E wr) (hg : GrownS a wr w') : SetAt B n D w' := by
  refine World.ownsMap.kept h hg ?_
  intro e
  rcases owns_addr ho.1 with e' | ⟨g, e', _, _⟩
  · rw [e'] at e; cases e
  · subst e'
    simp at e
    subst e
    obtain ⟨es, clock, hb, _⟩ := h
    rcases ho.1.2 with ⟨h', _⟩ | ⟨g', cap', cur, h', _, hg', _⟩
    · simp at h'
    · simp only [Value.slice.injEq, Option.some.injEq, Addr.mk.injEq, and_true, true_and] at h'
      obtain ⟨rfl, rfl⟩ := h'
      rw [hb] at hg'
      cases hg'
/-- the set marked: what the union owns is not touched -/
theorem Ph.marked {w wr w' : World} {a : Option Addr} {cap B n : Nat} {D E : List ByteArray} (h : Ph w a cap D wr) (hs : SetAt B n E wr) (hB : w.heap.size < B) (hg : wr.grownBy w' (some B)) : Ph w a cap D w' := by
  obtain ⟨h1, h2, h3, h4⟩ := h
  refine ⟨h1.grown hg (by omega) (fun k hk => by cases hk; omega), Nat.lt_of_lt_of_le h2 hg.size, by rw [hg.block _ h2 (by simp; omega)]; exact h3, h4.block (fun x hx => ?_)⟩
  refine hg.block _ (h4.addr x hx).2 ?_
  intro e
  simp at e
  obtain ⟨es, clock, hb, _⟩ := hs
  rcases owns_addr h4.1 with e' | ⟨g, e', _, _⟩
  · rw [e'] at hx; cases hx
  · rw [e'] at hx; cases hx
    subst e'
    subst e
    rcases h4.1.2 with ⟨h', _⟩ | ⟨g', cap', cur, h', _, hg', _⟩
    · simp at h'
    · simp only [Value.slice.injEq, Option.some.injEq, Addr.mk.injEq, and_true, true_and] at h'
      obtain ⟨rfl, rfl⟩ := h'
      rw [hb] at hg'
      cases hg'

theorem wt_mem {ps : List Prt} {p : Prt} (h : p ∈ ps) : 16 * p.ss.length ≤ wt ps := by
  induction ps with
  | nil => cases h
  | cons q r ih =>
    simp only [wt, List.map_cons, List.sum_cons] at ih ⊢
    rcases List.mem_cons.1 h with rfl | h
    · omega
    · have := ih h; omega
theorem cnt_wt (ps : List Prt) : 16 * cnt (ps.map key) = wt ps := by
  induction ps with
  | nil => rfl
  | cons q r ih =>
    simp only [wt, cnt, key, List.map_cons, List.sum_cons, List.map_map] at ih ⊢
    omega
theorem key_at {ps : List Prt} {i : Nat} {p : Prt} (h : ps[i]? = some p) : (ps.map key)[i]? = some (p.kind, p.ss) := by simp [h, key]

/-- what the first loop leaves -/
def Aft (ks : List (Int × List ByteArray)) (a : Option Addr) (D : List ByteArray) : Prop := (a = none ∧ D = [] ∧ first ks = false) ∨ (a ≠ none ∧ first ks = true ∧ D = dist ks)

set_option maxHeartbeats 4000000 in
set_option maxRecDepth 100000 in
theorem alt_any (b off cap : Nat) (ps : List Prt) (w : World) (hn : 32 * ps.length + wt ps ≤ 1048576) (hbw : 0 < ps.length → b < w.heap.size) (h : PartsAt w (some ⟨b, off, none⟩) ps) (hsz : ∀ p ∈ ps, ∀ s ∈ p.ss, s.size ≤ maxLen) :
    Calls Try.prog 23 #[.slice (some ⟨b, off, none⟩) ps.length cap] w fun e w' => ∃ a c, e = .returned (.agg #[.int .i64 (altK (ps.map key)), .slice a (altD (ps.map key)).length c]) ∧ OwnS (w.heap.size + 1) a c (altD (ps.map key)) w' ∧ Below w.heap.size w w' := by
  have HP : Hid (PartsAt w (some ⟨b, off, none⟩) ps) := h
  have HSZ : Hid (∀ p ∈ ps, ∀ s ∈ p.ss, s.size ≤ maxLen) := hsz
  have hn1 : ps.length ≤ 32768 := by omega
  have hmm := @run_makeMap Try.prog
  have hneq := fun (w : World) (a : Option Addr) (n c : Nat) => run_neq_slice_nil_any (P := Try.prog) w 29 9 a n c 0 0 Try.underlying29
  obtain ⟨i9, hi9, hz0, hz1, hz2⟩ := info_parts Try.info9
  have hcnt : cnt (ps.map key) ≤ 65536 := by have := cnt_wt ps; omega
  clear h hsz
  have HBW : Hid (0 < ps.length → b < w.heap.size) := hbw
  clear hbw
  go_enter Try.func23, Try.ntmps23
  go_upto_block 0 with fail
  go_cut [3] (fun v3 wc => ∃ a c D, v3 = .slice a D.length c ∧ Hid (Ph w a c D wc) ∧ Hid (Aft (ps.map key) a D))
  case first =>
    go_wp2_with fail
    go_loopw [3, 17] (fun v3 v17 wr => ∃ (i : Nat) (a : Option Addr) (c : Nat) (D : List ByteArray), i ≤ ps.length ∧ v17 = .int .i64 i ∧ v3 = .slice a D.length c ∧ D.length ≤ 64 ∧ Hid (D = dist ((ps.map key).take i)) ∧ Hid (exactAll ((ps.map key).take i) = true) ∧ Hid (Ph w a c D wr)) (fun _ v17 _ => ps.length - (intOf v17).toNat)
    case atStart => exact ⟨0, none, 0, [], by omega, rfl, rfl, by simp, rfl, rfl, Ph.start w⟩
    case round =>
      obtain ⟨i, a, c, D, hi17, rfl, rfl, hD64, HD, HX, HPH⟩ := hrel
      by_cases hlt : i < ps.length
      · have hki : (i : Int) < (ps.length : Int) := by omega
        have hbw := HBW.out (by omega)
        obtain ⟨b', off', p, e, hp, hc0, hc1, hst⟩ := HP.out i hlt
        simp at e
        obtain ⟨rfl, rfl⟩ := e
        have hd0 : wr.cell? ⟨b, off + i * 2, none⟩ = some (.int .i64 p.kind) := (HPH.out.1.cell (p := ⟨b, off + i * 2, none⟩) hbw).trans hc0
        have hd1 : wr.cell? ⟨b, off + i * 2 + 1, none⟩ = some (.slice p.addr p.ss.length p.cap) := (HPH.out.1.cell (p := ⟨b, off + i * 2 + 1, none⟩) hbw).trans hc1
        have hpl : p.ss.length ≤ 65536 := by have := wt_mem (List.mem_of_getElem? hp); omega
        have HST : Hid (StrsAt w p.addr p.ss) := hst
        have HKI : Hid ((ps.map key)[i]? = some (p.kind, p.ss)) := key_at hp
        have HPS : Hid (∀ s ∈ p.ss, s.size ≤ maxLen) := HSZ.out p (List.mem_of_getElem? hp)
        clear hst hp hc0 hc1
        obtain ⟨kd, pa, pc, ss⟩ := p
        dsimp only at hd0 hd1 hpl HST HKI HPS
        by_cases hkd : kd = 1
        · have hkb : (kd != 1) = false := by simp [hkd]
          have HX2 : Hid (exactAll ((ps.map key).take (i + 1)) = true) := all_snoc HKI.out HX.out (by simp [hkd])
          have HD2 : Hid (dist ((ps.map key).take (i + 1)) = addAll D ss) := by rw [Hid, take_snoc' HKI.out, dist_snoc, ← HD.out]
          clear hkd
          obtain ⟨wo, hwo⟩ : ∃ wo : World, wo = wr := ⟨_, rfl⟩
          subst hwo
          go_wp2_with fail
          go_loopw [3, 27] (fun v3 v27 wr => ∃ (j : Nat) (a2 : Option Addr) (c2 : Nat) (E : List ByteArray), j ≤ ss.length ∧ v27 = .int .i64 j ∧ v3 = .slice a2 E.length c2 ∧ E.length ≤ 64 + j ∧ Hid (E = addAll D (ss.take j)) ∧ Hid (Ph w a2 c2 E wr)) (fun _ v27 _ => ss.length - (intOf v27).toNat)
          case atStart => exact ⟨0, a, c, D, by omega, rfl, rfl, by omega, by simp [Hid, addAll], HPH.out.alloc _⟩
          case round =>
            obtain ⟨j, a2, c2, E, hj, rfl, rfl, hE, HE, HPH2⟩ := hrel
            by_cases hjl : j < ss.length
            · have hji : (j : Int) < (ss.length : Int) := by omega
              obtain ⟨t, ht⟩ : ∃ t, t = ss.getD j ByteArray.empty := ⟨_, rfl⟩
              obtain ⟨b', off', hx, hce⟩ := (HST.out.below HPH2.out.1) j hjl
              subst hx
              rw [← ht] at hce
              have HE2 : Hid (addNew E t = addAll D (ss.take (j + 1))) := by
                have e2 : ss.take (j + 1) = ss.take j ++ [t] := by rw [List.take_succ_eq_append_getElem hjl, ht]; simp [List.getD, hjl]
                rw [Hid, e2, addAll_snoc, ← HE.out]
              have hlen := (addNew_length E t).2
              clear ht
              go_wp2_with fail
              refine (appendNew_any (w.heap.size + 1) a2 c2 E t _ HPH2.out.size (by omega) HPH2.out.2.2.2).mono ?_
              rintro e w3 ⟨a3, c3, rfl, ho3, hg3⟩
              have HPH3 : Hid (Ph w a3 c3 (addNew E t) w3) := HPH2.out.grown hg3 ho3
              clear ho3 hg3 hce
              go_wp2
              go_roundw
              case rel => exact ⟨j + 1, a3, c3, addNew E t, by omega, by go_num, rfl, by omega, HE2, HPH3⟩
              case measure => simp [intOf]; omega
            · have hji : decide ((j : Int) < (ss.length : Int)) = false := decide_eq_false (by omega)
              have HE2 : Hid (E = addAll D ss) := by rw [Hid, HE.out, List.take_of_length_le (by omega)]
              by_cases h64 : 64 < E.length
              · have HF : Hid (first (ps.map key) = false) := first_false_of_long (by
                  have := dist_take_le (ps.map key) (i + 1)
                  rw [HD2.out, ← HE2.out] at this
                  omega)
                go_wp2
                go_meet
                case rel => exact ⟨none, 0, [], rfl, HPH2.out.forget, .inl ⟨rfl, rfl, HF.out⟩⟩
              · have h64d : decide ((64 : Int) < (E.length : Int)) = false := decide_eq_false (by omega)
                have HD3 : Hid (E = dist ((ps.map key).take (i + 1))) := by rw [Hid, HD2.out, ← HE2.out]
                go_wp2
                go_roundw
                case rel => exact ⟨i + 1, a2, c2, E, by omega, by go_num, rfl, by omega, HD3, HX2, HPH2⟩
                case measure => simp [intOf]; omega
        · have hkb : (kd != 1) = true := by simpa using hkd
          have HF : Hid (first (ps.map key) = false) := first_false_of_exact (exact_false HKI.out (by simpa using hkd))
          clear hkd
          go_wp2
          go_meet
          case rel => exact ⟨none, 0, [], rfl, (HPH.out.alloc _).forget, .inl ⟨rfl, rfl, HF.out⟩⟩
      · have hki : decide ((i : Int) < (ps.length : Int)) = false := decide_eq_false (by omega)
        have HD2 : Hid (D = dist (ps.map key)) := by rw [Hid, HD.out, List.take_of_length_le (by simp; omega)]
        have HX2 : Hid (exactAll (ps.map key) = true) := by have := HX.out; rwa [List.take_of_length_le (by simp; omega)] at this
        have HAF : Hid (Aft (ps.map key) a D) := by
          by_cases e : D = []
          · exact .inl ⟨HPH.out.2.2.2.2.2 e, e, first_false_of_none (by rw [← HD2.out]; exact e)⟩
          · exact .inr ⟨fun e' => e (HPH.out.2.2.2.2.1 e'), first_true HX2.out (by rw [← HD2.out]; exact e) (by rw [← HD2.out]; omega), HD2.out⟩
        go_wp2
        go_meet
        case rel => exact ⟨a, c, D, rfl, HPH, HAF⟩
  case rest =>
    obtain ⟨a, c, D, rfl, HPH, HAF⟩ := hcut
    rcases HAF.out with ⟨rfl, rfl, hf⟩ | ⟨ha, hf, rfl⟩
    · have HF : Hid (first (ps.map key) = false) := hf
      clear hf HAF
      rw [List.length_nil]
      go_wp2_with fail
      have hBm : w.heap.size < wc.heap.size := HPH.out.2.1
      go_loopw [3, 46] (fun v3 v46 wr => ∃ (i : Nat) (a : Option Addr) (c : Nat) (D : List ByteArray), i ≤ ps.length ∧ v46 = .int .i64 i ∧ v3 = .slice a D.length c ∧ D.length ≤ 65536 ∧ Hid (D = dist ((ps.map key).take i)) ∧ Hid (needlesAll ((ps.map key).take i) = true) ∧ Hid (Ph w a c D wr) ∧ Hid (SetAt wc.heap.size D.length D wr)) (fun _ v46 _ => ps.length - (intOf v46).toNat)
      case atStart => exact ⟨0, none, c, [], by omega, rfl, rfl, by simp, rfl, rfl, HPH.out.alloc _, World.ownsMap_made _ _ _ _⟩
      case round =>
        clear HPH
        obtain ⟨i, a, c, D, hi46, rfl, rfl, hDl, HD, HX, HPH, HSET⟩ := hrel
        by_cases hlt : i < ps.length
        · have hki : (i : Int) < (ps.length : Int) := by omega
          have hbw := HBW.out (by omega)
          obtain ⟨b', off', p, e, hp, hc0, hc1, hst⟩ := HP.out i hlt
          simp at e
          obtain ⟨rfl, rfl⟩ := e
          have hd0 : wr.cell? ⟨b, off + i * 2, none⟩ = some (.int .i64 p.kind) := (HPH.out.1.cell (p := ⟨b, off + i * 2, none⟩) hbw).trans hc0
          have hd1 : wr.cell? ⟨b, off + i * 2 + 1, none⟩ = some (.slice p.addr p.ss.length p.cap) := (HPH.out.1.cell (p := ⟨b, off + i * 2 + 1, none⟩) hbw).trans hc1
          have hpl : p.ss.length ≤ 65536 := by have := wt_mem (List.mem_of_getElem? hp); omega
          have HST : Hid (StrsAt w p.addr p.ss) := hst
          have HKI : Hid ((ps.map key)[i]? = some (p.kind, p.ss)) := key_at hp
          have HPS : Hid (∀ s ∈ p.ss, s.size ≤ maxLen) := HSZ.out p (List.mem_of_getElem? hp)
          clear hst hp hc0 hc1
          obtain ⟨kd, pa, pc, ss⟩ := p
          dsimp only at hd0 hd1 hpl HST HKI HPS
          go_wp2_with fail
          refine (needles_any kd pa pc ss _ (by omega) (by exact HST.out.below (HPH.out.alloc _).1)).mono ?_
          rintro e w3 ⟨rfl, hb3⟩
          have HPH3 : Hid (Ph w a c D w3) := (HPH.out.alloc _).below hb3
          have HSET3 : Hid (SetAt wc.heap.size D.length D w3) := SetAt.below (World.ownsMap.alloc HSET.out _) hb3
          clear hb3 hd0 hd1 HPH HSET
          cases hq : needleOk (kd, ss)
          · rw [show nres false pa ss.length pc = .tuple #[.slice none 0 0, .bool false] from rfl]
            have HNF : Hid (needlesAll (ps.map key) = false) := needles_false HKI.out hq
            have HK : Hid (altK (ps.map key) = 0 ∧ altD (ps.map key) = []) := by simp [Hid, altK, altD, HF.out, HNF.out]
            obtain ⟨q0, q1, q2, q3⟩ := HPH3.out.cells
            have HST2 := HPH3.out.store (.int .i64 0) (.slice none 0 0)
            have HS2 : Hid (Below w.heap.size w _) := HST2.2
            clear HST2 hq
            go_wp2
            rw [HK.out.1, HK.out.2]
            exact bodyPost_ret (v := .agg #[.int .i64 0, .slice none 0 0]) (by simp [results, Try.results23, go_sem, q0, q1]) rfl ⟨none, 0, rfl, OwnS.nil _ _, HS2.out⟩
          · rw [show nres true pa ss.length pc = .tuple #[.slice pa ss.length pc, .bool true] from rfl]
            have HX2 : Hid (needlesAll ((ps.map key).take (i + 1)) = true) := all_snoc HKI.out HX.out hq
            have HD2 : Hid (dist ((ps.map key).take (i + 1)) = addAll D ss) := by rw [Hid, take_snoc' HKI.out, dist_snoc, ← HD.out]
            have HDL : Hid ((addAll D ss).length ≤ 65536) := by
              have h1 := dist_take_le (ps.map key) (i + 1)
              have h2 := dist_cnt (ps.map key)
              rw [HD2.out] at h1
              rw [Hid]; omega
            clear hq
            go_wp2_with fail
            go_loopw [3, 60] (fun v3 v60 wr => ∃ (j : Nat) (a2 : Option Addr) (c2 : Nat) (E : List ByteArray), j ≤ ss.length ∧ v60 = .int .i64 j ∧ v3 = .slice a2 E.length c2 ∧ E.length ≤ 65536 + j ∧ Hid (E = addAll D (ss.take j)) ∧ Hid (Ph w a2 c2 E wr) ∧ Hid (SetAt wc.heap.size E.length E wr)) (fun _ v60 _ => ss.length - (intOf v60).toNat)
            case atStart => exact ⟨0, a, c, D, by omega, rfl, rfl, by omega, by simp [Hid, addAll], HPH3, HSET3⟩
            case round =>
              clear HPH3 HSET3
              obtain ⟨j, a2, c2, E, hj, rfl, rfl, hE, HE, HPH2, HSET2⟩ := hrel
              by_cases hjl : j < ss.length
              · have hji : (j : Int) < (ss.length : Int) := by omega
                obtain ⟨t, ht⟩ : ∃ t, t = ss.getD j ByteArray.empty := ⟨_, rfl⟩
                obtain ⟨b', off', hx, hce⟩ := (HST.out.below HPH2.out.1) j hjl
                subst hx
                rw [← ht] at hce
                have hts : t.size ≤ maxLen := HPS.out t (by rw [ht]; simp [List.getD, hjl])
                have HE2 : Hid (addNew E t = addAll D (ss.take (j + 1))) := by
                  have e2 : ss.take (j + 1) = ss.take j ++ [t] := by rw [List.take_succ_eq_append_getElem hjl, ht]; simp [List.getD, hjl]
                  rw [Hid, e2, addAll_snoc, ← HE.out]
                clear ht
                cases hq : hasL E t
                · have HE3 : Hid (E ++ [t] = addAll D (ss.take (j + 1))) := by rw [Hid, ← HE2.out, addNew, if_neg (by rw [hq]; decide)]
                  go_wp2_with (first | (at_lookup; go_must (refine wpList_seen _ rfl _ _ rfl wc.heap.size E.length E t hts rfl HSET2.out rfl ?_)) | (at_mapUpdate; go_must (refine wpList_mark _ rfl _ _ _ rfl wc.heap.size E.length E t hts ?m1 rfl HSET2.out rfl rfl ?_)))
                  try case m1 => unfold maxLen; omega
                  intro w4 hset4 hg4
                  have HPH4 : Hid (Ph w a2 c2 E w4) := HPH2.out.marked HSET2.out hBm hg4.out
                  clear hg4 HPH2 HSET2 hce
                  go_wp2_with (first | (at_builtin; go_must (refine wpList_pushS w4 (w.heap.size + 1) rfl _ _ 29 rfl i9 Try.underlying29 hi9 hz0 hz1 hz2 a2 c2 E t rfl rfl HPH4.out.2.2.2 HPH4.out.size ?m2 (by omega) ?_)))
                  try case m2 => simp
                  intro a5 c5 w5 ho5 hg5
                  have HPH5 : Hid (Ph w a5 c5 (E ++ [t]) w5) := HPH4.out.grown hg5.out ho5.out
                  have HSET5 : Hid (SetAt wc.heap.size (E ++ [t]).length (E ++ [t]) w5) := by
                    rw [List.length_append]
                    exact hset4.out.grown HPH4.out.2.2.2 hg5.out
                  clear ho5 hg5 hset4 HPH4 hq
                  go_wp2
                  go_roundw
                  case rel => exact ⟨j + 1, a5, c5, E ++ [t], by omega, by go_num, by simp, by simp; omega, HE3, HPH5, HSET5⟩
                  case measure => simp [intOf]; omega
                · have HE3 : Hid (E = addAll D (ss.take (j + 1))) := by rw [Hid, ← HE2.out, addNew, if_pos hq]
                  go_wp2_with (first | (at_lookup; go_must (refine wpList_seen _ rfl _ _ rfl wc.heap.size E.length E t hts rfl HSET2.out rfl ?_)))
                  go_roundw
                  case rel => exact ⟨j + 1, a2, c2, E, by omega, by go_num, rfl, by omega, HE3, HPH2, HSET2⟩
                  case measure => simp [intOf]; omega
              · have hji : decide ((j : Int) < (ss.length : Int)) = false := decide_eq_false (by omega)
                have HE2 : Hid (E = addAll D ss) := by rw [Hid, HE.out, List.take_of_length_le (by omega)]
                have HD3 : Hid (E = dist ((ps.map key).take (i + 1))) := by rw [Hid, HD2.out, ← HE2.out]
                have hEl : E.length ≤ 65536 := by have := HDL.out; rwa [← HE2.out] at this
                go_wp2
                go_roundw
                case rel => exact ⟨i + 1, a2, c2, E, by omega, by go_num, rfl, hEl, HD3, HX2, HPH2, HSET2⟩
                case measure => simp [intOf]; omega
        · have hki : decide ((i : Int) < (ps.length : Int)) = false := decide_eq_false (by omega)
          have HD2 : Hid (D = dist (ps.map key)) := by rw [Hid, HD.out, List.take_of_length_le (by simp; omega)]
          have HX2 : Hid (needlesAll (ps.map key) = true) := by have := HX.out; rwa [List.take_of_length_le (by simp; omega)] at this
          obtain ⟨q0, q1, q2, q3⟩ := HPH.out.cells
          by_cases h4096 : 4096 < D.length
          · have HK : Hid (altK (ps.map key) = 0 ∧ altD (ps.map key) = []) := by
              have h1 : 4096 < (dist (ps.map key)).length := by rw [← HD2.out]; exact h4096
              simp [Hid, altK, altD, HF.out, h1]
            have HST2 := HPH.out.store (.int .i64 0) (.slice none 0 0)
            have HS2 : Hid (Below w.heap.size w _) := HST2.2
            clear HST2
            go_wp2
            rw [HK.out.1, HK.out.2]
            exact bodyPost_ret (v := .agg #[.int .i64 0, .slice none 0 0]) (by simp [results, Try.results23, go_sem, q0, q1]) rfl ⟨none, 0, rfl, OwnS.nil _ _, HS2.out⟩
          · have h4096d : decide ((4096 : Int) < (D.length : Int)) = false := decide_eq_false (by omega)
            have HK : Hid (altK (ps.map key) = 2 ∧ altD (ps.map key) = D) := by
              have h1 : ¬ 4096 < (dist (ps.map key)).length := by rw [← HD2.out]; exact h4096
              simp only [Hid, altK, altD, HF.out, HX2.out, h1, HD2.out]
              simp
            have HST2 := HPH.out.store (.int .i64 2) (.slice a D.length c)
            have HS1 : Hid (OwnS (w.heap.size + 1) a c D _) := HST2.1
            have HS2 : Hid (Below w.heap.size w _) := HST2.2
            clear HST2
            go_wp2
            rw [HK.out.1, HK.out.2]
            exact bodyPost_ret (v := .agg #[.int .i64 2, .slice a D.length c]) (by simp [results, Try.results23, go_sem, q0, q1]) rfl ⟨a, c, rfl, HS1.out, HS2.out⟩
    · obtain ⟨x, rfl⟩ : ∃ x, a = some x := by cases a with
        | none => exact absurd rfl ha
        | some x => exact ⟨x, rfl⟩
      have HK : Hid (altK (ps.map key) = 1 ∧ altD (ps.map key) = dist (ps.map key)) := by simp [Hid, altK, altD, hf]
      obtain ⟨q0, q1, q2, q3⟩ := HPH.out.cells
      have HST := HPH.out.store (.int .i64 1) (.slice (some x) (dist (ps.map key)).length c)
      have HS1 : Hid (OwnS (w.heap.size + 1) (some x) c (dist (ps.map key)) _) := HST.1
      have HS2 : Hid (Below w.heap.size w _) := HST.2
      clear HST ha hf HAF
      go_wp2
      rw [HK.out.1, HK.out.2]
      exact bodyPost_ret (v := .agg #[.int .i64 1, .slice (some x) (dist (ps.map key)).length c]) (by simp [results, Try.results23, go_sem, q0, q1]) rfl ⟨some x, c, rfl, HS1.out, HS2.out⟩

end Go.Proofs.Qxb6601111a
