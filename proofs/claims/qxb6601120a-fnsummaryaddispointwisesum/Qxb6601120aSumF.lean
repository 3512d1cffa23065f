import Derived.Test.Qxb6601120aSumE
namespace Go.Proofs.Qxb6601120a
open Go.RowKit
open Go.Maps (Keyed has size)
open Go.WideMaps
set_option linter.unusedVariables false

set_option maxHeartbeats 1000000 in
/-- the other's map is nil: the map stays -/
theorem add_nil (p : Nat) (mb : Option Nat) (n1 n2 n3 n4 n5 m1 m2 m3 m4 m5 : Int) (w : World) (hS : SumAt w p mb n1 n2 n3 n4 n5) :
    Calls Try.prog 15 #[.pointer (some ⟨p, 0, none⟩), .agg #[.map none, .int .i64 m1, .int .i64 m2, .int .i64 m3, .int .i64 m4, .int .i64 m5]] w fun e w' => e = .returned (.tuple #[]) ∧
      SumAt w' p mb (adds n1 m1) (adds n2 m2) (adds n3 m3) (adds n4 m4) (adds n5 m5) ∧ But p none w w' := by
  have hpw : p < w.heap.size := lt_of_cell hS.c0
  have hrg := run_range_nilMap (P := Try.prog) (w.alloc (.cells #[.map none, .int .i64 m1, .int .i64 m2, .int .i64 m3, .int .i64 m4, .int .i64 m5] 30)) 27 34 3 Try.underlying27
  have HNX : Hid (∀ ty, (Instr.next (.pointer (some ⟨w.heap.size + 1, 0, none⟩)) false ty).run Try.prog ((w.alloc (.cells #[.map none, .int .i64 m1, .int .i64 m2, .int .i64 m3, .int .i64 m4, .int .i64 m5] 30)).alloc (.mapIter none 0 #[] 0)) = .ok (.tuple #[.bool false]) ((w.alloc (.cells #[.map none, .int .i64 m1, .int .i64 m2, .int .i64 m3, .int .i64 m4, .int .i64 m5] 30)).alloc (.mapIter none 0 #[] 0))) := by
    intro ty
    have := run_next_nilMap (P := Try.prog) (w.alloc (.cells #[.map none, .int .i64 m1, .int .i64 m2, .int .i64 m3, .int .i64 m4, .int .i64 m5] 30)) ty 0 0 #[]
    rwa [show (w.alloc (.cells #[.map none, .int .i64 m1, .int .i64 m2, .int .i64 m3, .int .i64 m4, .int .i64 m5] 30)).heap.size = w.heap.size + 1 by simp] at this
  have e1 : (w.alloc (.cells #[.map none, .int .i64 m1, .int .i64 m2, .int .i64 m3, .int .i64 m4, .int .i64 m5] 30)).heap.size = w.heap.size + 1 := by simp
  rw [e1] at hrg
  clear e1
  have HG : Hid ((w.alloc (.cells #[.map none, .int .i64 m1, .int .i64 m2, .int .i64 m3, .int .i64 m4, .int .i64 m5] 30)).grownBy ((w.alloc (.cells #[.map none, .int .i64 m1, .int .i64 m2, .int .i64 m3, .int .i64 m4, .int .i64 m5] 30)).alloc (.mapIter none 0 #[] 0)) none) := World.grownBy_alloc _ _ _
  have HSM : Hid (SumAt ((w.alloc (.cells #[.map none, .int .i64 m1, .int .i64 m2, .int .i64 m3, .int .i64 m4, .int .i64 m5] 30)).alloc (.mapIter none 0 #[] 0)) p mb n1 n2 n3 n4 n5) := (hS.block (Below.heap_alloc w _ p hpw)).block (Below.heap_alloc _ _ p (by simp; omega))
  have HBT : Hid (But p none w ((w.alloc (.cells #[.map none, .int .i64 m1, .int .i64 m2, .int .i64 m3, .int .i64 m4, .int .i64 m5] 30)).alloc (.mapIter none 0 #[] 0))) := But.of_grown HG.out
  have HBX : Hid ((((w.alloc (.cells #[.map none, .int .i64 m1, .int .i64 m2, .int .i64 m3, .int .i64 m4, .int .i64 m5] 30)).alloc (.mapIter none 0 #[] 0))).heap[w.heap.size]? = (w.alloc (.cells #[.map none, .int .i64 m1, .int .i64 m2, .int .i64 m3, .int .i64 m4, .int .i64 m5] 30)).heap[w.heap.size]?) := Below.heap_alloc _ _ _ (by simp)
  clear hS
  go_enter Try.func15, Try.ntmps15
  go_wp2
  go_loopw [4, 5] (fun _ _ wr => Hid (wr = ((w.alloc (.cells #[.map none, .int .i64 m1, .int .i64 m2, .int .i64 m3, .int .i64 m4, .int .i64 m5] 30)).alloc (.mapIter none 0 #[] 0)))) (fun _ _ _ => 0)
  case atStart => exact rfl
  case round =>
    have hnx : ∀ ty, (Instr.next (.pointer (some ⟨w.heap.size + 1, 0, none⟩)) false ty).run Try.prog wr = .ok (.tuple #[.bool false]) wr := by rw [hrel.out]; exact HNX.out
    have HSM2 : Hid (SumAt wr p mb n1 n2 n3 n4 n5) := by rw [hrel.out]; exact HSM
    have HBT2 : Hid (But p none w wr) := by rw [hrel.out]; exact HBT
    have hbx : wr.heap[w.heap.size]? = (w.alloc (.cells #[.map none, .int .i64 m1, .int .i64 m2, .int .i64 m3, .int .i64 m4, .int .i64 m5] 30)).heap[w.heap.size]? := by rw [hrel.out]; exact HBX.out
    clear hrel HSM HBT HBX HG HNX hrg
    have X1 : Hid (SumAt (((((wr.setCell ⟨p, 1, none⟩ (.int .i64 (wrap64 (n1 + m1)))).setCell ⟨p, 2, none⟩ (.int .i64 (wrap64 (n2 + m2)))).setCell ⟨p, 3, none⟩ (.int .i64 (wrap64 (n3 + m3)))).setCell ⟨p, 4, none⟩ (.int .i64 (wrap64 (n4 + m4)))).setCell ⟨p, 5, none⟩ (.int .i64 (wrap64 (n5 + m5)))) p mb (adds n1 m1) (adds n2 m2) (adds n3 m3) (adds n4 m4) (adds n5 m5)) := ((((HSM2.out.set1 _).set2 _).set3 _).set4 _).set5 _
    have X3 : Hid (But p none w (((((wr.setCell ⟨p, 1, none⟩ (.int .i64 (wrap64 (n1 + m1)))).setCell ⟨p, 2, none⟩ (.int .i64 (wrap64 (n2 + m2)))).setCell ⟨p, 3, none⟩ (.int .i64 (wrap64 (n3 + m3)))).setCell ⟨p, 4, none⟩ (.int .i64 (wrap64 (n4 + m4)))).setCell ⟨p, 5, none⟩ (.int .i64 (wrap64 (n5 + m5))))) := ((((HBT2.out.setCell _ _).setCell _ _).setCell _ _).setCell _ _).setCell _ _
    have b1 : wr.cell? ⟨w.heap.size, 1, none⟩ = some (.int .i64 m1) := by rw [World.cell?_of_block (w := w.alloc _) hbx]; simp
    have b2 : wr.cell? ⟨w.heap.size, 2, none⟩ = some (.int .i64 m2) := by rw [World.cell?_of_block (w := w.alloc _) hbx]; simp
    have b3 : wr.cell? ⟨w.heap.size, 3, none⟩ = some (.int .i64 m3) := by rw [World.cell?_of_block (w := w.alloc _) hbx]; simp
    have b4 : wr.cell? ⟨w.heap.size, 4, none⟩ = some (.int .i64 m4) := by rw [World.cell?_of_block (w := w.alloc _) hbx]; simp
    have b5 : wr.cell? ⟨w.heap.size, 5, none⟩ = some (.int .i64 m5) := by rw [World.cell?_of_block (w := w.alloc _) hbx]; simp
    obtain ⟨q0, q1, q2, q3, q4, q5, qf⟩ := HSM2.out
    clear hbx
    have hp1 : p ≠ w.heap.size := by omega
    have hp2 : w.heap.size ≠ p := by omega
    go_wp2
    go_region
    go_wp2
    go_region
    go_wp2
    go_region
    go_wp2
    go_region
    go_wp2
    go_region
    go_wp2
    go_end0
    exact ⟨rfl, X1.out.drew.drew.drew.drew.drew, X3.out.drew.drew.drew.drew.drew⟩

set_option maxHeartbeats 1000000 in
/-- the other's map is empty: the map stays -/
theorem add_empty (p : Nat) (mb : Option Nat) (g2 N2 : Nat) (n1 n2 n3 n4 n5 m1 m2 m3 m4 m5 : Int) (D2 : DataW Unit) (w : World) (hS : SumAt w p mb n1 n2 n3 n4 n5) (h2 : Cnts g2 N2 D2 w) (h0 : size D2 = 0) :
    Calls Try.prog 15 #[.pointer (some ⟨p, 0, none⟩), .agg #[.map (some g2), .int .i64 m1, .int .i64 m2, .int .i64 m3, .int .i64 m4, .int .i64 m5]] w fun e w' => e = .returned (.tuple #[]) ∧
      SumAt w' p mb (adds n1 m1) (adds n2 m2) (adds n3 m3) (adds n4 m4) (adds n5 m5) ∧ But p none w w' := by
  have hpw : p < w.heap.size := lt_of_cell hS.c0
  have HS : Hid (SumAt w p mb n1 n2 n3 n4 n5) := hS
  have H2 : Hid (Cnts g2 N2 D2 w) := h2
  have H0 : Hid (size D2 = 0) := h0
  clear hS h2 h0
  have e1 : ∀ o, (w.alloc o).heap.size = w.heap.size + 1 := by intro o; simp
  have hH : ∀ o, Hid (Cnts g2 N2 D2 (w.alloc o)) := fun o => World.ownsMap.alloc H2.out o
  go_enter Try.func15, Try.ntmps15
  go_wp2_with (first
    | (at_range; refine wpList_range_own _ rfl _ 27 rfl 34 3 law34 Try.underlying27 _ g2 N2 D2 rfl (hH _).out ?_; intro w0 hrg0 hg0 hs0)
    | go_in)
  go_frame
  rw [e1] at hrg0 hs0 ⊢
  go_loopw [4, 5] (fun _ _ wr => ∃ (left : Lit → Bool), wr.ranges Try.prog 34 (plainElem Try.prog 3) g2 (w.heap.size + 1) N2 D2 left 0 ∧ Hid ((w.alloc (.cells #[.map (some g2), .int .i64 m1, .int .i64 m2, .int .i64 m3, .int .i64 m4, .int .i64 m5] 30)).grownBy wr none))
    (fun _ _ wr => wr.rangeLeft g2 (w.heap.size + 1))
  case atStart => exact ⟨_, by rw [← H0.out]; exact hrg0, hg0⟩
  case round =>
    obtain ⟨left, hrg, HG⟩ := hrel
    have HSM2 : Hid (SumAt wr p mb n1 n2 n3 n4 n5) := (HS.out.block (Below.heap_alloc w _ p hpw)).block (HG.out.block p (by simp; omega) (by simp))
    have HBT2 : Hid (But p none w wr) := But.of_grown HG.out
    have hbx : wr.heap[w.heap.size]? = (w.alloc (.cells #[.map (some g2), .int .i64 m1, .int .i64 m2, .int .i64 m3, .int .i64 m4, .int .i64 m5] 30)).heap[w.heap.size]? := HG.out.block w.heap.size (by simp) (by simp)
    go_wp2_with (first
      | (at_next; refine wpList_next_ranges _ rfl _ rfl 34 law34 _ Value.string (Value.int .i64) (fun key kl h => by obtain ⟨s, h, _⟩ := key_inv h; exact ⟨s, h⟩) (fun v y h => by obtain ⟨c, h, _⟩ := plainElem_int_inv Try.underlying3 h; exact ⟨c, h⟩) g2 (w.heap.size + 1) N2 _ _ _ rfl hrg ?_ ?_)
      | go_in)
    · intro hl0
      clear hl0 hrg
      have X1 : Hid (SumAt (((((wr.setCell ⟨p, 1, none⟩ (.int .i64 (wrap64 (n1 + m1)))).setCell ⟨p, 2, none⟩ (.int .i64 (wrap64 (n2 + m2)))).setCell ⟨p, 3, none⟩ (.int .i64 (wrap64 (n3 + m3)))).setCell ⟨p, 4, none⟩ (.int .i64 (wrap64 (n4 + m4)))).setCell ⟨p, 5, none⟩ (.int .i64 (wrap64 (n5 + m5)))) p mb (adds n1 m1) (adds n2 m2) (adds n3 m3) (adds n4 m4) (adds n5 m5)) := ((((HSM2.out.set1 _).set2 _).set3 _).set4 _).set5 _
      have X3 : Hid (But p none w (((((wr.setCell ⟨p, 1, none⟩ (.int .i64 (wrap64 (n1 + m1)))).setCell ⟨p, 2, none⟩ (.int .i64 (wrap64 (n2 + m2)))).setCell ⟨p, 3, none⟩ (.int .i64 (wrap64 (n3 + m3)))).setCell ⟨p, 4, none⟩ (.int .i64 (wrap64 (n4 + m4)))).setCell ⟨p, 5, none⟩ (.int .i64 (wrap64 (n5 + m5))))) := ((((HBT2.out.setCell _ _).setCell _ _).setCell _ _).setCell _ _).setCell _ _
      have b1 : wr.cell? ⟨w.heap.size, 1, none⟩ = some (.int .i64 m1) := by rw [World.cell?_of_block (w := w.alloc _) hbx]; simp
      have b2 : wr.cell? ⟨w.heap.size, 2, none⟩ = some (.int .i64 m2) := by rw [World.cell?_of_block (w := w.alloc _) hbx]; simp
      have b3 : wr.cell? ⟨w.heap.size, 3, none⟩ = some (.int .i64 m3) := by rw [World.cell?_of_block (w := w.alloc _) hbx]; simp
      have b4 : wr.cell? ⟨w.heap.size, 4, none⟩ = some (.int .i64 m4) := by rw [World.cell?_of_block (w := w.alloc _) hbx]; simp
      have b5 : wr.cell? ⟨w.heap.size, 5, none⟩ = some (.int .i64 m5) := by rw [World.cell?_of_block (w := w.alloc _) hbx]; simp
      obtain ⟨q0, q1, q2, q3, q4, q5, qf⟩ := HSM2.out
      clear hbx
      have hp1 : p ≠ w.heap.size := by omega
      have hp2 : w.heap.size ≠ p := by omega
      go_wp2
      go_region
      go_wp2
      go_region
      go_wp2
      go_region
      go_wp2
      go_region
      go_wp2
      go_region
      go_wp2
      go_end0
      exact ⟨rfl, X1.out.drew.drew.drew.drew.drew, X3.out.drew.drew.drew.drew.drew⟩

theorem But.weak {p : Nat} {w w' : World} (h : But p none w w') (mb : Option Nat) : But p mb w w' := ⟨h.os, h.tape, h.output, h.size, fun k hk hp _ => h.block k hk hp (by simp)⟩
theorem Adds.empty {D1 D2 : DataW Unit} (h : size D2 = 0) : Adds D1 D1 D2 (fun _ => false) := by
  have hh : ∀ k, has D2 k = false := by
    intro k
    cases D2 with
    | map es => rw [Maps.size_eq] at h; rw [List.length_eq_zero_iff.1 h]; rfl
    | _ => rfl
  intro k
  rw [hh k]; simp

/-- what add leaves -/
def AddRes (p : Nat) (mb : Option Nat) (N : Nat) (n1 n2 n3 n4 n5 m1 m2 m3 m4 m5 : Int) (D1 D2 : DataW Unit) (w w' : World) : Prop :=
  SumAt w' p mb (adds n1 m1) (adds n2 m2) (adds n3 m3) (adds n4 m4) (adds n5 m5) ∧ (∃ D, Opt mb N D w' ∧ Adds D D1 D2 (fun _ => false)) ∧ But p mb w w'

theorem add_any (p : Nat) (mb mb2 : Option Nat) (N1 N2 : Nat) (n1 n2 n3 n4 n5 m1 m2 m3 m4 m5 : Int) (D1 D2 : DataW Unit) (w : World) (hS : SumAt w p mb n1 n2 n3 n4 n5) (h1 : Opt mb N1 D1 w) (h2 : Opt mb2 N2 D2 w)
    (hne : ∀ g, mb = some g → mb2 ≠ some g) (hN : N1 + size D2 < maxLen) (h0 : mb = none → size D2 = 0) :
    Calls Try.prog 15 #[.pointer (some ⟨p, 0, none⟩), .agg #[.map mb2, .int .i64 m1, .int .i64 m2, .int .i64 m3, .int .i64 m4, .int .i64 m5]] w fun e w' => e = .returned (.tuple #[]) ∧
      AddRes p mb (N1 + size D2) n1 n2 n3 n4 n5 m1 m2 m3 m4 m5 D1 D2 w w' := by
  have keep : ∀ w', size D2 = 0 → SumAt w' p mb (adds n1 m1) (adds n2 m2) (adds n3 m3) (adds n4 m4) (adds n5 m5) → But p none w w' → AddRes p mb (N1 + size D2) n1 n2 n3 n4 n5 m1 m2 m3 m4 m5 D1 D2 w w' := by
    intro w' hz hs hb
    refine ⟨hs, ⟨D1, ?_, Adds.empty hz⟩, hb.weak mb⟩
    rw [hz]
    rcases h1 with h | ⟨g, h, hc⟩
    · exact .inl h
    · refine .inr ⟨g, h, ?_⟩
      have hpg : g ≠ p := by
        rintro rfl
        obtain ⟨E, c, hg, _⟩ := hc
        have := hS.c0
        simp [World.cell?, hg] at this
      have hlt := World.ownsMap.lt hc
      obtain ⟨E, c, hg, r⟩ := hc
      exact ⟨E, c, by rw [hb.block g hlt hpg (by simp)]; exact hg, r⟩
  rcases h2 with ⟨rfl, rfl⟩ | ⟨g2, rfl, h2⟩
  · exact (add_nil p mb n1 n2 n3 n4 n5 m1 m2 m3 m4 m5 w hS).mono fun e w' ⟨he, hs, hb⟩ => ⟨he, keep w' rfl hs hb⟩
  · by_cases hz : size D2 = 0
    · exact (add_empty p mb g2 N2 n1 n2 n3 n4 n5 m1 m2 m3 m4 m5 D2 w hS h2 hz).mono fun e w' ⟨he, hs, hb⟩ => ⟨he, keep w' hz hs hb⟩
    · rcases h1 with ⟨rfl, _⟩ | ⟨g, rfl, hc⟩
      · exact absurd (h0 rfl) hz
      · refine (add_some p g g2 N1 N2 n1 n2 n3 n4 n5 m1 m2 m3 m4 m5 D1 D2 w hS hc h2 (fun e => hne g rfl (by rw [e])) hN).mono fun e w' ⟨he, hs, ⟨D, hD, hA⟩, hb⟩ => ⟨he, hs, ⟨D, .inr ⟨g, rfl, hD⟩, hA⟩, hb⟩

theorem Opt.alloc {mb : Option Nat} {n : Nat} {D : DataW Unit} {w : World} (h : Opt mb n D w) (o : Obj) : Opt mb n D (w.alloc o) := by
  rcases h with h | ⟨g, h, hc⟩
  · exact .inl h
  · exact .inr ⟨g, h, World.ownsMap.alloc hc o⟩

theorem zzadd (p : Nat) (mb mb2 : Option Nat) (N1 N2 : Nat) (n1 n2 n3 n4 n5 m1 m2 m3 m4 m5 : Int) (D1 D2 : DataW Unit) (w : World) (hS : SumAt w p mb n1 n2 n3 n4 n5) (h1 : Opt mb N1 D1 w) (h2 : Opt mb2 N2 D2 w)
    (hne : ∀ g, mb = some g → mb2 ≠ some g) (hN : N1 + size D2 < maxLen) (h0 : mb = none → size D2 = 0) :
    Calls Try.prog 10 #[.pointer (some ⟨p, 0, none⟩), .agg #[.map mb2, .int .i64 m1, .int .i64 m2, .int .i64 m3, .int .i64 m4, .int .i64 m5]] w fun e w' => e = .returned (.tuple #[]) ∧
      AddRes p mb (N1 + size D2) n1 n2 n3 n4 n5 m1 m2 m3 m4 m5 D1 D2 w w' := by
  have hpw : p < w.heap.size := lt_of_cell hS.c0
  have HC : ∀ o, Hid (Calls Try.prog 15 #[.pointer (some ⟨p, 0, none⟩), .agg #[.map mb2, .int .i64 m1, .int .i64 m2, .int .i64 m3, .int .i64 m4, .int .i64 m5]] (w.alloc o) fun e w' => e = .returned (.tuple #[]) ∧
      AddRes p mb (N1 + size D2) n1 n2 n3 n4 n5 m1 m2 m3 m4 m5 D1 D2 (w.alloc o) w') := fun o => add_any p mb mb2 N1 N2 n1 n2 n3 n4 n5 m1 m2 m3 m4 m5 D1 D2 (w.alloc o) (hS.block (Below.heap_alloc w o p hpw)) (h1.alloc o) (h2.alloc o) hne hN h0
  clear hS h1 h2 hne hN h0
  go_enter Try.func10, Try.ntmps10
  go_wp2_with fail
  refine ((HC _).out).mono ?_
  rintro e w' ⟨rfl, hs, hD, hb⟩
  have HS : Hid (SumAt w' p mb (adds n1 m1) (adds n2 m2) (adds n3 m3) (adds n4 m4) (adds n5 m5)) := hs
  have HD : Hid (∃ D, Opt mb (N1 + size D2) D w' ∧ Adds D D1 D2 (fun _ => false)) := hD
  have HB : Hid (But p mb w w') := ⟨hb.os, hb.tape, hb.output, Nat.le_trans (by simp) hb.size, fun k hk h1 h2 => by rw [hb.block k (by simp; omega) h1 h2, Below.heap_alloc _ _ _ hk]⟩
  clear hs hD hb HC
  go_wp2
  go_end0
  exact ⟨rfl, HS.out, HD.out, HB.out⟩

end Go.Proofs.Qxb6601120a
