import Derived.Test.Qxb6601111aAltF
namespace Go.Proofs.Qxb6601111a
open Go.RowKit
set_option linter.unusedVariables false

theorem Try.info43 : (Try.prog.info? 43).map (fun i => (i.zero, i.size, i.bytes)) = some (some (.agg #[.int .i64 0, .slice none 0 0]), 2, 32) := by kernel_rfl

/-- the facts laid so far -/
def FactTo (w : World) (ps : List Prt) (i : Nat) (wr : World) : Prop :=
  Below w.heap.size w wr ∧ ∃ (xs : List Value), wr.ownsRow w.heap.size 43 2 (.slice (some ⟨w.heap.size, 0, none⟩) ps.length ps.length) ps.length xs ∧
    ∀ t p, t < i → ps[t]? = some p → xs[t * 2]? = some (.int .i64 p.kind) ∧ xs[t * 2 + 1]? = some (.slice p.addr p.ss.length p.cap)
theorem FactTo.cells {w wr : World} {ps : List Prt} {i : Nat} (h : FactTo w ps i wr) (k : Nat) (hk : k < ps.length * 2) : (∃ v, wr.cell? ⟨w.heap.size, k, none⟩ = some v) ∧ wr.frozen? ⟨w.heap.size, k, none⟩ = false := by
  obtain ⟨_, xs, ho, _⟩ := h
  have hl : xs.length = ps.length * 2 := ho.1
  exact ⟨⟨xs[k], by rw [ho.cellAt k hk]; exact List.getElem?_eq_getElem (by omega)⟩, ho.frozenAt k⟩
theorem FactTo.step {w wr : World} {ps : List Prt} {i : Nat} (h : FactTo w ps i wr) (hi : i < ps.length) {p : Prt} (hp : ps[i]? = some p) :
    FactTo w ps (i + 1) ((wr.setCell ⟨w.heap.size, i * 2, none⟩ (.int .i64 p.kind)).setCell ⟨w.heap.size, i * 2 + 1, none⟩ (.slice p.addr p.ss.length p.cap)) := by
  obtain ⟨h1, xs, ho, h4⟩ := h
  have hl : xs.length = ps.length * 2 := ho.1
  have o1 := (ho.stored (i * 2) (.int .i64 p.kind)).1
  have o2 := (o1.stored (i * 2 + 1) (.slice p.addr p.ss.length p.cap)).1
  refine ⟨(h1.setCell (p := ⟨w.heap.size, i * 2, none⟩) (Nat.le_refl _) _).setCell (p := ⟨w.heap.size, i * 2 + 1, none⟩) (Nat.le_refl _) _, _, o2, fun t q ht hq => ?_⟩
  by_cases e : t = i
  · subst e
    rw [hp] at hq
    cases hq
    refine ⟨?_, ?_⟩
    · rw [List.getElem?_set_ne (by omega), List.getElem?_set_self (by omega)]
    · rw [List.getElem?_set_self (by simp; omega)]
  · obtain ⟨e1, e2⟩ := h4 t q (by omega) hq
    refine ⟨?_, ?_⟩
    · rw [List.getElem?_set_ne (by omega), List.getElem?_set_ne (by omega)]; exact e1
    · rw [List.getElem?_set_ne (by omega), List.getElem?_set_ne (by omega)]; exact e2
theorem StrsAt.drewN {w : World} {a : Option Addr} {D : List ByteArray} (h : StrsAt w a D) (n : Nat) : StrsAt (w.drewN n) a D := by
  intro j hj
  obtain ⟨b, off, h1, h3⟩ := h j hj
  exact ⟨b, off, h1, by simpa using h3⟩

set_option maxHeartbeats 1000000 in
theorem zzalt_any (kg sg : Nat) (ps : List Prt) (w : World) (hn : 32 * ps.length + wt ps ≤ 1048576) (h : SplitAt w kg sg ps) (hsz : ∀ p ∈ ps, ∀ s ∈ p.ss, s.size ≤ maxLen) :
    Calls Try.prog 12 #[.slice (some ⟨kg, 0, none⟩) ps.length ps.length, .slice (some ⟨sg, 0, none⟩) ps.length ps.length] w fun e w' =>
      ∃ a c, e = .returned (.tuple #[.int .i64 (altK (ps.map key)), .slice a (altD (ps.map key)).length c]) ∧ StrsAt w' a (altD (ps.map key)) ∧ (a = none ↔ altD (ps.map key) = []) ∧ Below w.heap.size w w' := by
  obtain ⟨i0, hi, hz0, hz1, hz2⟩ := info_parts Try.info43
  have HSP : Hid (SplitAt w kg sg ps) := h
  have HSZ : Hid (∀ p ∈ ps, ∀ s ∈ p.ss, s.size ≤ maxLen) := hsz
  have hkg : kg < w.heap.size := h.1
  have hsg : sg < w.heap.size := h.2.1
  have hn1 : ps.length ≤ 32768 := by omega
  have HN : Hid (32 * ps.length + wt ps ≤ 1048576) := hn
  clear h hsz hn
  go_enter Try.func12, Try.ntmps12
  go_wp2_with (first | (at_make; refine wpList_make_full _ rfl _ _ 40 rfl w.heap.size 43 i0 (.agg #[.int .i64 0, .slice none 0 0]) 2 Try.underlying40 hi hz0 hz1 _ _ _ _ ps.length rfl rfl rfl rfl ?c1 ?c2 ?c3 ?_))
  try case c1 => first | omega | (rw [hz2]; omega)
  try case c2 => unfold maxLen; omega
  try case c3 => exact Nat.le_refl _
  intro w1 hown1 hgrow1
  have hft : Hid (FactTo w ps 0 w1) := ⟨(Below.refl _ _).grown hgrow1 (Nat.le_refl _) (fun _ h => by cases h), _, hown1, fun t p ht => by omega⟩
  clear hown1 hgrow1
  go_wp2
  go_loopw [7] (fun v7 wr => ∃ i : Nat, i ≤ ps.length ∧ v7 = .int .i64 i ∧ Hid (FactTo w ps i wr)) (fun v7 _ => ps.length - (intOf v7).toNat)
  case atStart => exact ⟨0, by omega, rfl, hft⟩
  case round =>
    clear hft
    obtain ⟨i, hi7, rfl, hft⟩ := hrel
    by_cases hlt : i < ps.length
    · have hki : (i : Int) < (ps.length : Int) := by omega
      obtain ⟨p, hp⟩ : ∃ p, ps[i]? = some p := ⟨ps[i], List.getElem?_eq_getElem hlt⟩
      obtain ⟨hc0, hc1, _⟩ := HSP.out.2.2 i p hp
      have hd0 : wr.cell? ⟨kg, i, none⟩ = some (.int .i64 p.kind) := (hft.out.1.cell (p := ⟨kg, i, none⟩) hkg).trans hc0
      have hd1 : wr.cell? ⟨sg, i, none⟩ = some (.slice p.addr p.ss.length p.cap) := (hft.out.1.cell (p := ⟨sg, i, none⟩) hsg).trans hc1
      obtain ⟨⟨x0, hx0⟩, hf0⟩ := hft.out.cells (i * 2) (by omega)
      obtain ⟨⟨x1, hx1⟩, hf1⟩ := hft.out.cells (i * 2 + 1) (by omega)
      have hft2 : Hid (FactTo w ps (i + 1) ((wr.setCell ⟨w.heap.size, i * 2, none⟩ (.int .i64 p.kind)).setCell ⟨w.heap.size, i * 2 + 1, none⟩ (.slice p.addr p.ss.length p.cap))) := hft.out.step hlt hp
      clear hp hc0 hc1
      go_wp2
      go_roundw
      case rel => exact ⟨i + 1, by omega, by go_num, hft2⟩
      case measure => simp [intOf]; omega
    · have hki : decide ((i : Int) < (ps.length : Int)) = false := decide_eq_false (by omega)
      obtain rfl : i = ps.length := by omega
      have HPA : Hid (PartsAt wr (some ⟨w.heap.size, 0, none⟩) ps ∧ w.heap.size < wr.heap.size) := by
        obtain ⟨hb, xs, ho, h4⟩ := hft.out
        refine ⟨fun i hi => ?_, (owns_size ho).2⟩
        have hp : ps[i]? = some ps[i] := List.getElem?_eq_getElem hi
        obtain ⟨e1, e2⟩ := h4 i ps[i] hi hp
        refine ⟨_, _, ps[i], rfl, hp, ?_, ?_, (HSP.out.2.2 i _ hp).2.2.below hb⟩
        · rw [Nat.zero_add, ho.cellAt _ (by omega)]; exact e1
        · rw [Nat.zero_add, ho.cellAt _ (by omega)]; exact e2
      have HBW : Hid (Below w.heap.size w wr) := hft.out.1
      clear hft
      go_wp2_with fail
      refine (alt_any w.heap.size 0 ps.length ps wr HN.out (fun _ => HPA.out.2) HPA.out.1 HSZ.out).mono ?_
      rintro e w3 ⟨a, c, rfl, ho, hb⟩
      have HS3 : Hid (∀ o, StrsAt (w3.alloc o) a (altD (ps.map key))) := fun o => ho.strs.below ((Below.refl _ _).alloc (Nat.le_refl _) _)
      have HNIL : Hid (a = none ↔ altD (ps.map key) = []) := ho.2
      have HB3 : Hid (Below w.heap.size w w3) := HBW.out.trans (hb.mono (Nat.le_of_lt HPA.out.2))
      have hs3 : w.heap.size ≤ w3.heap.size := HB3.out.size
      clear ho hb
      go_wp2
      go_quiet (fail)
      go_wp2
      go_ret2
      exact ⟨a, c, rfl, (HS3.out _).drewN _, HNIL.out, drewN_below (HB3.out.alloc hs3 _) _⟩

end Go.Proofs.Qxb6601111a
