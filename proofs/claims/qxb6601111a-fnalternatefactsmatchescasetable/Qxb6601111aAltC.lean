import Derived.Test.Qxb6601111aAltB
namespace Go.Proofs.Qxb6601111a
open Go.RowKit
set_option linter.unusedVariables false

theorem Try.info39 : (Try.prog.info? 39).map (fun i => (i.zero, i.size, i.bytes)) = some (some (.agg #[.int .i64 0, .slice none 0 0]), 2, 32) := by kernel_rfl

/-- a slice of strings none of whose cells lies in block g -/
def StrsNot (g : Nat) (w : World) (a : Option Addr) (D : List ByteArray) : Prop :=
  ∀ j, j < D.length → ∃ b off, a = some ⟨b, off, none⟩ ∧ b ≠ g ∧ w.cell? ⟨b, off + j, none⟩ = some (.string (D.getD j ByteArray.empty))
theorem StrsNot.strs {g : Nat} {w : World} {a : Option Addr} {D : List ByteArray} (h : StrsNot g w a D) : StrsAt w a D := fun j hj => let ⟨b, off, h1, _, h3⟩ := h j hj; ⟨b, off, h1, h3⟩
theorem StrsNot.below {g : Nat} {w w' : World} {a : Option Addr} {D : List ByteArray} (h : StrsNot g w a D) (hb : Below w.heap.size w w') : StrsNot g w' a D := by
  intro j hj
  obtain ⟨b, off, h1, h2, h3⟩ := h j hj
  exact ⟨b, off, h1, h2, (hb.cell (p := ⟨b, off + j, none⟩) (World.block_lt_of_cell? _ _ h3)).trans h3⟩
theorem StrsNot.store {g : Nat} {w : World} {a : Option Addr} {D : List ByteArray} (h : StrsNot g w a D) (k : Nat) (u : Value) : StrsNot g (w.setCell ⟨g, k, none⟩ u) a D := by
  intro j hj
  obtain ⟨b, off, h1, h2, h3⟩ := h j hj
  have hne : (⟨g, k, none⟩ : Addr) ≠ ⟨b, off + j, none⟩ := fun e => h2 (by simpa using (congrArg Addr.block e).symm)
  exact ⟨b, off, h1, h2, by rw [World.cell?_setCell_other _ _ _ _ hne]; exact h3⟩
theorem StrsAt.below {w w' : World} {a : Option Addr} {D : List ByteArray} (h : StrsAt w a D) (hb : Below w.heap.size w w') : StrsAt w' a D := by
  intro j hj
  obtain ⟨b, off, h1, h3⟩ := h j hj
  exact ⟨b, off, h1, (hb.cell (p := ⟨b, off + j, none⟩) (World.block_lt_of_cell? _ _ h3)).trans h3⟩
theorem PartsAt.below {w w' : World} {a : Option Addr} {ps : List Prt} (h : PartsAt w a ps) (hb : Below w.heap.size w w') : PartsAt w' a ps := by
  intro i hi
  obtain ⟨b, off, p, h1, h2, h3, h4, h5⟩ := h i hi
  exact ⟨b, off, p, h1, h2, (hb.cell (p := ⟨b, off + i * 2, none⟩) (World.block_lt_of_cell? _ _ h3)).trans h3, (hb.cell (p := ⟨b, off + i * 2 + 1, none⟩) (World.block_lt_of_cell? _ _ h4)).trans h4, h5.below hb⟩

def key (p : Prt) : Int × List ByteArray := (p.kind, p.ss)

/-- what the copying of the parts has come to -/
def CloneTo (w : World) (ps : List Prt) (i : Nat) (wr : World) : Prop :=
  Below w.heap.size w wr ∧ ∃ (xs : List Value) (PS : List Prt), wr.ownsRow w.heap.size 39 2 (.slice (some ⟨w.heap.size, 0, none⟩) ps.length ps.length) ps.length xs ∧ PS.length = i ∧ PS.map key = (ps.take i).map key ∧
    ∀ t p, PS[t]? = some p → xs[t * 2]? = some (.int .i64 p.kind) ∧ xs[t * 2 + 1]? = some (.slice p.addr p.ss.length p.cap) ∧ StrsNot w.heap.size wr p.addr p.ss

theorem CloneTo.lt {w wr : World} {ps : List Prt} {i : Nat} (h : CloneTo w ps i wr) : w.heap.size < wr.heap.size := by
  obtain ⟨_, xs, PS, ho, _⟩ := h
  exact (owns_size ho).2
theorem CloneTo.below {w wr wr' : World} {ps : List Prt} {i : Nat} (h : CloneTo w ps i wr) (hb : Below wr.heap.size wr wr') : CloneTo w ps i wr' := by
  have hlt := h.lt
  obtain ⟨h1, xs, PS, ho, h2, h3, h4⟩ := h
  refine ⟨h1.trans (hb.mono (by omega)), xs, PS, owns_block ho (hb.block _ hlt), h2, h3, fun t p hp => ?_⟩
  obtain ⟨e1, e2, e3⟩ := h4 t p hp
  exact ⟨e1, e2, e3.below hb⟩
theorem CloneTo.cells {w wr : World} {ps : List Prt} {i : Nat} (h : CloneTo w ps i wr) (k : Nat) (hk : k < ps.length * 2) : (∃ v, wr.cell? ⟨w.heap.size, k, none⟩ = some v) ∧ wr.frozen? ⟨w.heap.size, k, none⟩ = false := by
  obtain ⟨_, xs, PS, ho, _⟩ := h
  have hl : xs.length = ps.length * 2 := ho.1
  exact ⟨⟨xs[k], by rw [ho.cellAt k hk]; exact List.getElem?_eq_getElem (by omega)⟩, ho.frozenAt k⟩

theorem CloneTo.step {w wr : World} {ps : List Prt} {i : Nat} (h : CloneTo w ps i wr) (hi : i < ps.length) {p : Prt} (hp : ps[i]? = some p) (a : Option Addr) (cap : Nat) (hs : StrsNot w.heap.size wr a p.ss) :
    CloneTo w ps (i + 1) ((wr.setCell ⟨w.heap.size, i * 2, none⟩ (.int .i64 p.kind)).setCell ⟨w.heap.size, i * 2 + 1, none⟩ (.slice a p.ss.length cap)) := by
  obtain ⟨h1, xs, PS, ho, h2, h3, h4⟩ := h
  have hl : xs.length = ps.length * 2 := ho.1
  have o1 := (ho.stored (i * 2) (.int .i64 p.kind)).1
  have o2 := (o1.stored (i * 2 + 1) (.slice a p.ss.length cap)).1
  refine ⟨(h1.setCell (p := ⟨w.heap.size, i * 2, none⟩) (Nat.le_refl _) _).setCell (p := ⟨w.heap.size, i * 2 + 1, none⟩) (Nat.le_refl _) _, _, PS ++ [⟨p.kind, a, cap, p.ss⟩], o2, by simp [h2], ?_, fun t q hq => ?_⟩
  · obtain ⟨hi', hpe⟩ := List.getElem?_eq_some_iff.1 hp
    rw [List.take_succ_eq_append_getElem hi, List.map_append, List.map_append, h3, hpe]
    rfl
  · by_cases e : t < PS.length
    · rw [List.getElem?_append_left e] at hq
      obtain ⟨e1, e2, e3⟩ := h4 t q hq
      refine ⟨?_, ?_, (e3.store _ _).store _ _⟩
      · rw [List.getElem?_set_ne (by omega), List.getElem?_set_ne (by omega)]; exact e1
      · rw [List.getElem?_set_ne (by omega), List.getElem?_set_ne (by omega)]; exact e2
    · rw [List.getElem?_append_right (by omega)] at hq
      have ht : t - PS.length = 0 := by
        rcases Nat.eq_zero_or_pos (t - PS.length) with h0 | h0
        · exact h0
        · rw [List.getElem?_eq_none (by simp; omega)] at hq; cases hq
      rw [ht] at hq
      simp at hq
      subst hq
      have hti : t = i := by omega
      subst hti
      refine ⟨?_, ?_, (hs.store _ _).store _ _⟩
      · rw [List.getElem?_set_ne (by omega), List.getElem?_set_self (by omega)]
      · rw [List.getElem?_set_self (by simp; omega)]

/-- strings copied one by one into a new row -/
def CopyS (w : World) (D : List ByteArray) (k : Nat) (wr : World) : Prop :=
  Below w.heap.size w wr ∧ ∃ xs, wr.ownsRow w.heap.size 9 1 (.slice (some ⟨w.heap.size, 0, none⟩) D.length D.length) D.length xs ∧ ∀ t, t < k → xs[t]? = some (.string (D.getD t ByteArray.empty))
theorem CopyS.step {w wr : World} {D : List ByteArray} {k : Nat} (h : CopyS w D k wr) (hk : k < D.length) {t : ByteArray} (ht : t = D.getD k ByteArray.empty) : CopyS w D (k + 1) (wr.setCell ⟨w.heap.size, k, none⟩ (.string t)) := by
  obtain ⟨hb, xs, ho, hx⟩ := h
  have hl : xs.length = D.length := by simpa using ho.1
  refine ⟨hb.setCell (p := ⟨w.heap.size, k, none⟩) (Nat.le_refl _) _, _, (ho.stored k _).1, fun t' ht' => ?_⟩
  by_cases e1 : t' = k
  · subst e1; simp [hl, hk, ht]
  · rw [List.getElem?_set_ne (by omega)]; exact hx t' (by omega)
theorem CopyS.cells {w wr : World} {D : List ByteArray} {i : Nat} (h : CopyS w D i wr) (k : Nat) (hk : k < D.length) : (∃ v, wr.cell? ⟨w.heap.size, k, none⟩ = some v) ∧ wr.frozen? ⟨w.heap.size, k, none⟩ = false := by
  obtain ⟨_, xs, ho, _⟩ := h
  have hl : xs.length = D.length := by simpa using ho.1
  exact ⟨⟨xs[k], by rw [ho.cellAt k (by omega)]; exact List.getElem?_eq_getElem (by omega)⟩, ho.frozenAt k⟩
theorem CopyS.not {w wr : World} {D : List ByteArray} {g : Nat} (h : CopyS w D D.length wr) (hg : g < w.heap.size) : StrsNot g wr (some ⟨w.heap.size, 0, none⟩) D := by
  obtain ⟨_, xs, ho, hx⟩ := h
  intro j hj
  exact ⟨_, _, rfl, by omega, by rw [Nat.zero_add, ho.cellAt j (by omega)]; exact hx j hj⟩

set_option maxHeartbeats 1000000 in
theorem clone_some (b off cap : Nat) (ps : List Prt) (w : World) (hn : 32 * ps.length + wt ps ≤ 1048576) (h : PartsAt w (some ⟨b, off, none⟩) ps) (hl : ∀ p ∈ ps, p.ss.length ≤ 65536) (hnl : ∀ p ∈ ps, p.addr = none → p.ss = [] ∧ p.cap = 0) (h0 : 0 < ps.length) :
    Calls Try.prog 10 #[.slice (some ⟨b, off, none⟩) ps.length cap] w fun e w' => e = .returned (.slice (some ⟨w.heap.size, 0, none⟩) ps.length ps.length) ∧ CloneTo w ps ps.length w' := by
  obtain ⟨i0, hi, hz0, hz1, hz2⟩ := info_parts Try.info39
  obtain ⟨i1, hi', hz0', hz1', hz2'⟩ := info_parts Try.info9
  have hne := fun (w : World) (a : Option Addr) (n c : Nat) => Lib.run_eql_slice_nil (P := Try.prog) w 22 39 a n c 0 0 Try.underlying22
  have hneq := fun (w : World) (a : Option Addr) (n c : Nat) => run_neq_slice_nil_any (P := Try.prog) w 29 9 a n c 0 0 Try.underlying29
  have HP : Hid (PartsAt w (some ⟨b, off, none⟩) ps) := h
  have HL : Hid (∀ p ∈ ps, p.ss.length ≤ 65536) := hl
  have HNL : Hid (∀ p ∈ ps, p.addr = none → p.ss = [] ∧ p.cap = 0) := hnl
  have hbw : b < w.heap.size := by obtain ⟨b', off', p, e, _, hc, _⟩ := h 0 h0; simp at e; obtain ⟨rfl, rfl⟩ := e; exact World.block_lt_of_cell? _ _ hc
  have hn1 : ps.length ≤ 32768 := by omega
  clear h hl hnl hn
  go_enter Try.func10, Try.ntmps10
  go_wp2_with (first | (at_make; refine wpList_make_full _ rfl _ _ 22 rfl w.heap.size 39 i0 (.agg #[.int .i64 0, .slice none 0 0]) 2 Try.underlying22 hi hz0 hz1 _ _ _ _ ps.length rfl rfl rfl rfl ?c1 ?c2 ?c3 ?_))
  try case c1 => first | omega | (rw [hz2]; omega)
  try case c2 => unfold maxLen; omega
  try case c3 => exact Nat.le_refl _
  intro w1 hown1 hgrow1
  have hcp : Hid (CloneTo w ps 0 w1) := ⟨(Below.refl _ _).grown hgrow1 (Nat.le_refl _) (fun _ h => by cases h), _, [], hown1, rfl, rfl, fun t p hp => by simp at hp⟩
  clear hown1 hgrow1
  go_wp2
  go_loopw [4] (fun v4 wr => ∃ i : Nat, i ≤ ps.length ∧ v4 = .int .i64 i ∧ Hid (CloneTo w ps i wr)) (fun v4 _ => ps.length - (intOf v4).toNat)
  case atStart => exact ⟨0, by omega, rfl, hcp⟩
  case round =>
    clear hcp
    obtain ⟨i, hi4, rfl, hcp⟩ := hrel
    by_cases hlt : i < ps.length
    · have hki : (i : Int) < (ps.length : Int) := by omega
      obtain ⟨b', off', p, e, hp, hc0, hc1, hst⟩ := HP.out i hlt
      simp at e
      obtain ⟨rfl, rfl⟩ := e
      have hplt := hcp.out.1
      have hd0 : wr.cell? ⟨b, off + i * 2, none⟩ = some (.int .i64 p.kind) := (hcp.out.1.cell (p := ⟨b, off + i * 2, none⟩) hbw).trans hc0
      have hd1 : wr.cell? ⟨b, off + i * 2 + 1, none⟩ = some (.slice p.addr p.ss.length p.cap) := (hcp.out.1.cell (p := ⟨b, off + i * 2 + 1, none⟩) hbw).trans hc1
      obtain ⟨⟨x0, hx0⟩, hf0⟩ := hcp.out.cells (i * 2) (by omega)
      obtain ⟨⟨x1, hx1⟩, hf1⟩ := hcp.out.cells (i * 2 + 1) (by omega)
      have hpl := HL.out p (List.mem_of_getElem? hp)
      have HPN : Hid (p.addr = none → p.ss = [] ∧ p.cap = 0) := HNL.out p (List.mem_of_getElem? hp)
      have HST : Hid (StrsAt wr p.addr p.ss) := hst.below hcp.out.1
      have HPI : Hid (ps[i]? = some p) := hp
      clear hst hp hc0 hc1 hplt
      obtain ⟨kd, pa, pc, ss⟩ := p
      dsimp only at hd0 hd1 hpl HPN HST
      cases pa with
      | none =>
        obtain ⟨rfl, rfl⟩ := HPN.out rfl
        have hcp2 : Hid (CloneTo w ps (i + 1) ((wr.setCell ⟨w.heap.size, i * 2, none⟩ (.int .i64 kd)).setCell ⟨w.heap.size, i * 2 + 1, none⟩ (.slice none 0 0))) :=
          hcp.out.step hlt HPI.out none 0 (fun j hj => by simp at hj)
        go_wp2
        go_roundw
        case rel => exact ⟨i + 1, by omega, by go_num, hcp2⟩
        case measure => simp [intOf]; omega
      | some x =>
        clear HPN
        obtain ⟨wo, hwo⟩ : ∃ wo : World, wo = wr := ⟨_, rfl⟩
        subst hwo
        have hglt : w.heap.size < wo.heap.size := hcp.out.lt
        go_wp2_with (first | (at_make; refine wpList_make_full _ rfl _ _ 29 rfl wo.heap.size 9 i1 (.string ByteArray.empty) 1 Try.underlying29 hi' hz0' hz1' _ _ _ _ ss.length rfl rfl rfl rfl ?d1 ?d2 ?d3 ?_))
        try case d1 => first | omega | (rw [hz2']; omega)
        try case d2 => unfold maxLen; omega
        try case d3 => exact Nat.le_refl _
        intro w2 hown2 hgrow2
        have hcs : Hid (CopyS wo ss 0 w2) := ⟨(Below.refl _ _).grown hgrow2 (Nat.le_refl _) (fun _ h => by cases h), _, hown2, fun t ht => by omega⟩
        clear hown2 hgrow2 hx0 hf0 hx1 hf1
        have HD0 : Hid (wo.cell? ⟨b, off + i * 2, none⟩ = some (.int .i64 kd)) := hd0
        have hbwo : b < wo.heap.size := by omega
        clear hd0 hd1
        go_wp2
        go_loopw [7] (fun v7 wr => ∃ j : Nat, j ≤ ss.length ∧ v7 = .int .i64 j ∧ Hid (CopyS wo ss j wr)) (fun v7 _ => ss.length - (intOf v7).toNat)
        case atStart => exact ⟨0, by omega, rfl, hcs⟩
        case round =>
          clear hcs
          obtain ⟨j, hj, rfl, hcs⟩ := hrel
          by_cases hjl : j < ss.length
          · have hji : (j : Int) < (ss.length : Int) := by omega
            obtain ⟨t, ht⟩ : ∃ t, t = ss.getD j ByteArray.empty := ⟨_, rfl⟩
            obtain ⟨b', off', hx, hce⟩ := (HST.out.below hcs.out.1) j hjl
            simp at hx
            subst hx
            rw [← ht] at hce
            obtain ⟨⟨y0, hy0⟩, hyf⟩ := hcs.out.cells j hjl
            have hcs2 : Hid (CopyS wo ss (j + 1) (wr.setCell ⟨wo.heap.size, j, none⟩ (.string t))) := hcs.out.step hjl ht
            clear ht
            go_wp2
            go_roundw
            case rel => exact ⟨j + 1, by omega, by go_num, hcs2⟩
            case measure => simp [intOf]; omega
          · have hji : decide ((j : Int) < (ss.length : Int)) = false := decide_eq_false (by omega)
            obtain rfl : j = ss.length := by omega
            have hcpr : Hid (CloneTo w ps i wr) := hcp.out.below hcs.out.1
            have hd0 : wr.cell? ⟨b, off + i * 2, none⟩ = some (.int .i64 kd) := (hcs.out.1.cell (p := ⟨b, off + i * 2, none⟩) hbwo).trans HD0.out
            obtain ⟨⟨x0, hx0⟩, hf0⟩ := hcpr.out.cells (i * 2) (by omega)
            obtain ⟨⟨x1, hx1⟩, hf1⟩ := hcpr.out.cells (i * 2 + 1) (by omega)
            have hcp2 : Hid (CloneTo w ps (i + 1) ((wr.setCell ⟨w.heap.size, i * 2, none⟩ (.int .i64 kd)).setCell ⟨w.heap.size, i * 2 + 1, none⟩ (.slice (some ⟨wo.heap.size, 0, none⟩) ss.length ss.length))) :=
              hcpr.out.step hlt HPI.out _ _ (hcs.out.not hglt)
            go_wp2
            go_roundw
            case rel => exact ⟨i + 1, by omega, by go_num, hcp2⟩
            case measure => simp [intOf]; omega
    · have hki : decide ((i : Int) < (ps.length : Int)) = false := decide_eq_false (by omega)
      obtain rfl : i = ps.length := by omega
      go_wp2
      go_ret
      exact ⟨rfl, hcp.out⟩

theorem CloneTo.parts {w wr : World} {ps : List Prt} (h : CloneTo w ps ps.length wr) : ∃ PS, PartsAt wr (some ⟨w.heap.size, 0, none⟩) PS ∧ PS.length = ps.length ∧ PS.map key = ps.map key := by
  obtain ⟨h1, xs, PS, ho, h2, h3, h4⟩ := h
  refine ⟨PS, fun i hi => ?_, h2, by rw [h3, List.take_of_length_le (Nat.le_refl _)]⟩
  obtain ⟨e1, e2, e3⟩ := h4 i PS[i] (List.getElem?_eq_getElem hi)
  refine ⟨_, _, PS[i], rfl, List.getElem?_eq_getElem hi, ?_, ?_, e3.strs⟩
  · rw [Nat.zero_add, ho.cellAt _ (by omega)]; exact e1
  · rw [Nat.zero_add, ho.cellAt _ (by omega)]; exact e2

theorem clone_nil (w : World) : Calls Try.prog 10 #[.slice none 0 0] w fun e w' => e = .returned (.slice none 0 0) ∧ w = w' := by
  have hne := fun (w : World) (a : Option Addr) (n c : Nat) => Lib.run_eql_slice_nil (P := Try.prog) w 22 39 a n c 0 0 Try.underlying22
  go_enter Try.func10, Try.ntmps10
  go_wp2
  go_ret
  exact ⟨rfl, rfl⟩

theorem clone_empty (x : Addr) (cap : Nat) (w : World) : Calls Try.prog 10 #[.slice (some x) 0 cap] w fun e w' => e = .returned (.slice (some ⟨w.heap.size, 0, none⟩) 0 0) ∧ Below w.heap.size w w' := by
  obtain ⟨i0, hi, hz0, hz1, hz2⟩ := info_parts Try.info39
  have hne := fun (w : World) (a : Option Addr) (n c : Nat) => Lib.run_eql_slice_nil (P := Try.prog) w 22 39 a n c 0 0 Try.underlying22
  go_enter Try.func10, Try.ntmps10
  go_wp2_with (first | (at_make; refine wpList_make_full _ rfl _ _ 22 rfl w.heap.size 39 i0 (.agg #[.int .i64 0, .slice none 0 0]) 2 Try.underlying22 hi hz0 hz1 _ _ _ _ 0 rfl rfl rfl rfl ?c1 ?c2 ?c3 ?_))
  try case c1 => omega
  try case c2 => exact Nat.zero_le _
  try case c3 => exact Nat.le_refl _
  intro w1 hown1 hgrow1
  have HB : Hid (Below w.heap.size w w1) := (Below.refl _ _).grown hgrow1 (Nat.le_refl _) (fun _ h => by cases h)
  clear hown1 hgrow1
  go_wp2
  refine wp_loop_rounds 1 ?_
  rw [rounds_succ]
  go_wp2
  go_ret
  exact ⟨rfl, HB.out⟩

/-- clonePartsDeep: the same kinds and strings, in new memory. -/
theorem clone_parts (a : Option Addr) (cap : Nat) (ps : List Prt) (w : World) (hn : 32 * ps.length + wt ps ≤ 1048576) (h : PartsAt w a ps) (hl : ∀ p ∈ ps, p.ss.length ≤ 65536) (hnl : ∀ p ∈ ps, p.addr = none → p.ss = [] ∧ p.cap = 0)
    (hc : a = none → ps = [] ∧ cap = 0) :
    Calls Try.prog 10 #[.slice a ps.length cap] w fun e w' => ∃ a' cap' PS, e = .returned (.slice a' PS.length cap') ∧ PartsAt w' a' PS ∧ PS.map key = ps.map key ∧ Below w.heap.size w w' := by
  cases a with
  | none =>
    obtain ⟨rfl, rfl⟩ := hc rfl
    refine (clone_nil w).mono ?_
    rintro e w' ⟨rfl, rfl⟩
    exact ⟨none, 0, [], rfl, fun i hi => by simp at hi, rfl, Below.refl _ _⟩
  | some x =>
    by_cases h0 : 0 < ps.length
    · obtain ⟨b, off, p, e, _⟩ := h 0 h0
      simp at e
      subst e
      refine (clone_some b off cap ps w hn h hl hnl h0).mono ?_
      rintro e w' ⟨rfl, hcl⟩
      obtain ⟨PS, h1, h2, h3⟩ := hcl.parts
      exact ⟨_, ps.length, PS, by rw [h2], h1, h3, hcl.1⟩
    · obtain rfl : ps = [] := List.eq_nil_of_length_eq_zero (by omega)
      refine (clone_empty x cap w).mono ?_
      rintro e w' ⟨rfl, hb⟩
      exact ⟨_, 0, [], rfl, fun i hi => by simp at hi, rfl, hb⟩

/-! ### splitParts -/
theorem Try.info3 : (Try.prog.info? 3).map (fun i => (i.zero, i.size, i.bytes)) = some (some (.int .i64 0), 1, 8) := by kernel_rfl
theorem Try.info29 : (Try.prog.info? 29).map (fun i => (i.zero, i.size, i.bytes)) = some (some (.slice none 0 0), 1, 24) := by kernel_rfl

/-- the kinds at kg, the sets at sg -/
def SplitAt (w : World) (kg sg : Nat) (ps : List Prt) : Prop :=
  kg < w.heap.size ∧ sg < w.heap.size ∧ ∀ i p, ps[i]? = some p → w.cell? ⟨kg, i, none⟩ = some (.int .i64 p.kind) ∧ w.cell? ⟨sg, i, none⟩ = some (.slice p.addr p.ss.length p.cap) ∧ StrsAt w p.addr p.ss

def SplitTo (w : World) (ps : List Prt) (kg sg i : Nat) (wr : World) : Prop :=
  Below w.heap.size w wr ∧ kg ≠ sg ∧ ∃ (xs ys : List Value), wr.ownsRow w.heap.size 3 1 (.slice (some ⟨kg, 0, none⟩) ps.length ps.length) ps.length xs ∧ wr.ownsRow w.heap.size 29 1 (.slice (some ⟨sg, 0, none⟩) ps.length ps.length) ps.length ys ∧
    ∀ t p, t < i → ps[t]? = some p → xs[t]? = some (.int .i64 p.kind) ∧ ys[t]? = some (.slice p.addr p.ss.length p.cap)

theorem SplitTo.cells {w wr : World} {ps : List Prt} {kg sg i : Nat} (h : SplitTo w ps kg sg i wr) (k : Nat) (hk : k < ps.length) :
    (∃ v, wr.cell? ⟨kg, k, none⟩ = some v) ∧ wr.frozen? ⟨kg, k, none⟩ = false ∧ (∃ v, wr.cell? ⟨sg, k, none⟩ = some v) ∧ wr.frozen? ⟨sg, k, none⟩ = false := by
  obtain ⟨_, _, xs, ys, h1, h2, _⟩ := h
  have l1 : xs.length = ps.length := by simpa using h1.1
  have l2 : ys.length = ps.length := by simpa using h2.1
  exact ⟨⟨xs[k], by rw [h1.cellAt k (by omega)]; exact List.getElem?_eq_getElem (by omega)⟩, h1.frozenAt k, ⟨ys[k], by rw [h2.cellAt k (by omega)]; exact List.getElem?_eq_getElem (by omega)⟩, h2.frozenAt k⟩

theorem SplitTo.step {w wr : World} {ps : List Prt} {kg sg i : Nat} (h : SplitTo w ps kg sg i wr) (hi : i < ps.length) {p : Prt} (hp : ps[i]? = some p) :
    SplitTo w ps kg sg (i + 1) ((wr.setCell ⟨kg, i, none⟩ (.int .i64 p.kind)).setCell ⟨sg, i, none⟩ (.slice p.addr p.ss.length p.cap)) := by
  obtain ⟨hb, hne, xs, ys, h1, h2, h3⟩ := h
  have l1 : xs.length = ps.length := by simpa using h1.1
  have l2 : ys.length = ps.length := by simpa using h2.1
  have a1 := (h1.stored i (.int .i64 p.kind)).1
  have a2 := ownsRow_setCell_other a1 (a := ⟨sg, i, none⟩) (by simp [Value.ownBlock]; exact hne) (.slice p.addr p.ss.length p.cap)
  have b1 := ownsRow_setCell_other h2 (a := ⟨kg, i, none⟩) (by simp [Value.ownBlock]; exact fun e => hne e.symm) (.int .i64 p.kind)
  have b2 := (b1.stored i (.slice p.addr p.ss.length p.cap)).1
  refine ⟨(hb.setCell (p := ⟨kg, i, none⟩) (owns_size h1).1 _).setCell (p := ⟨sg, i, none⟩) (owns_size h2).1 _, hne, _, _, a2, b2, fun t q ht hq => ?_⟩
  by_cases e : t = i
  · subst e
    rw [hp] at hq
    cases hq
    exact ⟨List.getElem?_set_self (by omega), List.getElem?_set_self (by omega)⟩
  · rw [List.getElem?_set_ne (by omega), List.getElem?_set_ne (by omega)]
    exact h3 t q (by omega) hq

set_option maxHeartbeats 400000 in
theorem split_any (a : Option Addr) (cap : Nat) (ps : List Prt) (w : World) (hn : ps.length ≤ 32768) (h : PartsAt w a ps) :
    Calls Try.prog 11 #[.slice a ps.length cap] w fun e w' => ∃ kg sg, e = .returned (.tuple #[.slice (some ⟨kg, 0, none⟩) ps.length ps.length, .slice (some ⟨sg, 0, none⟩) ps.length ps.length]) ∧ SplitAt w' kg sg ps ∧ Below w.heap.size w w' := by
  obtain ⟨i0, hi, hz0, hz1, hz2⟩ := info_parts Try.info3
  obtain ⟨i1, hi', hz0', hz1', hz2'⟩ := info_parts Try.info29
  have HP : Hid (PartsAt w a ps) := h
  clear h
  go_enter Try.func11, Try.ntmps11
  go_wp2_with (first | (at_make; refine wpList_make_full _ rfl _ _ 25 rfl w.heap.size 3 i0 (.int .i64 0) 1 Try.underlying25 hi hz0 hz1 _ _ _ _ ps.length rfl rfl rfl rfl ?c1 ?c2 ?c3 ?_))
  try case c1 => first | omega | (rw [hz2]; omega)
  try case c2 => unfold maxLen; omega
  try case c3 => exact Nat.le_refl _
  intro w1 hown1 hgrow1
  have hk1 : w.heap.size < w1.heap.size := (owns_size hown1).2
  have HO1 : Hid (w1.ownsRow w.heap.size 3 1 (.slice (some ⟨w.heap.size, 0, none⟩) ps.length ps.length) ps.length _) := hown1
  have HB1 : Hid (Below w.heap.size w w1) := (Below.refl _ _).grown hgrow1 (Nat.le_refl _) (fun _ h => by cases h)
  clear hown1 hgrow1
  go_wp2_with (first | (at_make; refine wpList_make_full _ rfl _ _ 26 rfl w.heap.size 29 i1 (.slice none 0 0) 1 Try.underlying26 hi' hz0' hz1' _ _ _ _ ps.length rfl rfl rfl rfl ?d1 ?d2 ?d3 ?_))
  try case d1 => first | omega | (rw [hz2']; omega)
  try case d2 => unfold maxLen; omega
  try case d3 => omega
  intro w2 hown2 hgrow2
  have hsp : Hid (SplitTo w ps w.heap.size w1.heap.size 0 w2) :=
    ⟨HB1.out.grown hgrow2 (by omega) (fun _ h => by cases h), by omega, _, _, owns_block HO1.out (hgrow2.block _ hk1 (by simp)), hown2, fun t p ht => by omega⟩
  clear hown2 hgrow2 HO1 HB1
  go_wp2
  go_loopw [6] (fun v6 wr => ∃ i : Nat, i ≤ ps.length ∧ v6 = .int .i64 i ∧ Hid (SplitTo w ps w.heap.size w1.heap.size i wr)) (fun v6 _ => ps.length - (intOf v6).toNat)
  case atStart => exact ⟨0, by omega, rfl, hsp⟩
  case round =>
    clear hsp
    obtain ⟨i, hi6, rfl, hsp⟩ := hrel
    by_cases hlt : i < ps.length
    · have hki : (i : Int) < (ps.length : Int) := by omega
      obtain ⟨b, off, p, rfl, hp, hc0, hc1, hst⟩ := HP.out i hlt
      have hbw : b < w.heap.size := World.block_lt_of_cell? _ _ hc0
      have hd0 : wr.cell? ⟨b, off + i * 2, none⟩ = some (.int .i64 p.kind) := (hsp.out.1.cell (p := ⟨b, off + i * 2, none⟩) hbw).trans hc0
      have hd1 : wr.cell? ⟨b, off + i * 2 + 1, none⟩ = some (.slice p.addr p.ss.length p.cap) := (hsp.out.1.cell (p := ⟨b, off + i * 2 + 1, none⟩) hbw).trans hc1
      obtain ⟨⟨x0, hx0⟩, hf0, ⟨x1, hx1⟩, hf1⟩ := hsp.out.cells i hlt
      have hsp2 : Hid (SplitTo w ps w.heap.size w1.heap.size (i + 1) ((wr.setCell ⟨w.heap.size, i, none⟩ (.int .i64 p.kind)).setCell ⟨w1.heap.size, i, none⟩ (.slice p.addr p.ss.length p.cap))) := hsp.out.step hlt hp
      clear hst hp hc0 hc1
      go_wp2
      go_roundw
      case rel => exact ⟨i + 1, by omega, by go_num, hsp2⟩
      case measure => simp [intOf]; omega
    · have hki : decide ((i : Int) < (ps.length : Int)) = false := decide_eq_false (by omega)
      obtain rfl : i = ps.length := by omega
      go_wp2
      go_ret2
      refine ⟨_, _, rfl, ?_, hsp.out.1⟩
      obtain ⟨hb, _, xs, ys, h1, h2, h3⟩ := hsp.out
      refine ⟨(owns_size h1).2, (owns_size h2).2, fun i p hp => ?_⟩
      have hil := (List.getElem?_eq_some_iff.1 hp).1
      obtain ⟨e1, e2⟩ := h3 i p hil hp
      obtain ⟨b, off, p', _, hp', _, _, hst⟩ := HP.out i hil
      rw [hp] at hp'
      cases hp'
      exact ⟨by rw [h1.cellAt i (by omega)]; exact e1, by rw [h2.cellAt i (by omega)]; exact e2, hst.below hb⟩

end Go.Proofs.Qxb6601111a
