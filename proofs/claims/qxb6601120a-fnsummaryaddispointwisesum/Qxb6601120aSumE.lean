import Derived.Test.Qxb6601120aSumD
import Derived.RegionTactic
import Derived.ChangeAlike
import Derived.BigRegion
namespace Go.Proofs.Qxb6601120a
open Go.RowKit
open Go.Maps (Keyed has size)
open Go.WideMaps
set_option linter.unusedVariables false

/-- the cells of a Summary -/
structure SumAt (w : World) (p : Nat) (mb : Option Nat) (n1 n2 n3 n4 n5 : Int) : Prop where
  c0 : w.cell? ⟨p, 0, none⟩ = some (.map mb)
  c1 : w.cell? ⟨p, 1, none⟩ = some (.int .i64 n1)
  c2 : w.cell? ⟨p, 2, none⟩ = some (.int .i64 n2)
  c3 : w.cell? ⟨p, 3, none⟩ = some (.int .i64 n3)
  c4 : w.cell? ⟨p, 4, none⟩ = some (.int .i64 n4)
  c5 : w.cell? ⟨p, 5, none⟩ = some (.int .i64 n5)
  f : ∀ k, w.frozen? ⟨p, k, none⟩ = false
theorem SumAt.block {w w' : World} {p : Nat} {mb : Option Nat} {n1 n2 n3 n4 n5 : Int} (h : SumAt w p mb n1 n2 n3 n4 n5) (hb : w'.heap[p]? = w.heap[p]?) : SumAt w' p mb n1 n2 n3 n4 n5 := by
  refine ⟨?_, ?_, ?_, ?_, ?_, ?_, fun k => ?_⟩
  · rw [World.cell?_of_block (w := w) hb]; exact h.c0
  · rw [World.cell?_of_block (w := w) hb]; exact h.c1
  · rw [World.cell?_of_block (w := w) hb]; exact h.c2
  · rw [World.cell?_of_block (w := w) hb]; exact h.c3
  · rw [World.cell?_of_block (w := w) hb]; exact h.c4
  · rw [World.cell?_of_block (w := w) hb]; exact h.c5
  · rw [World.frozen?_of_block (w := w) hb]; exact h.f k
theorem SumAt.set1 {w : World} {p : Nat} {mb : Option Nat} {n1 n2 n3 n4 n5 : Int} (h : SumAt w p mb n1 n2 n3 n4 n5) (v : Int) : SumAt (w.setCell ⟨p, 1, none⟩ (.int .i64 v)) p mb v n2 n3 n4 n5 := by
  obtain ⟨q0, q1, q2, q3, q4, q5, qf⟩ := h
  exact ⟨by simp [go_sem, *], by simp [go_sem, *], by simp [go_sem, *], by simp [go_sem, *], by simp [go_sem, *], by simp [go_sem, *], fun k => by simp [go_sem, qf]⟩
theorem SumAt.set2 {w : World} {p : Nat} {mb : Option Nat} {n1 n2 n3 n4 n5 : Int} (h : SumAt w p mb n1 n2 n3 n4 n5) (v : Int) : SumAt (w.setCell ⟨p, 2, none⟩ (.int .i64 v)) p mb n1 v n3 n4 n5 := by
  obtain ⟨q0, q1, q2, q3, q4, q5, qf⟩ := h
  exact ⟨by simp [go_sem, *], by simp [go_sem, *], by simp [go_sem, *], by simp [go_sem, *], by simp [go_sem, *], by simp [go_sem, *], fun k => by simp [go_sem, qf]⟩
theorem SumAt.set3 {w : World} {p : Nat} {mb : Option Nat} {n1 n2 n3 n4 n5 : Int} (h : SumAt w p mb n1 n2 n3 n4 n5) (v : Int) : SumAt (w.setCell ⟨p, 3, none⟩ (.int .i64 v)) p mb n1 n2 v n4 n5 := by
  obtain ⟨q0, q1, q2, q3, q4, q5, qf⟩ := h
  exact ⟨by simp [go_sem, *], by simp [go_sem, *], by simp [go_sem, *], by simp [go_sem, *], by simp [go_sem, *], by simp [go_sem, *], fun k => by simp [go_sem, qf]⟩
theorem SumAt.set4 {w : World} {p : Nat} {mb : Option Nat} {n1 n2 n3 n4 n5 : Int} (h : SumAt w p mb n1 n2 n3 n4 n5) (v : Int) : SumAt (w.setCell ⟨p, 4, none⟩ (.int .i64 v)) p mb n1 n2 n3 v n5 := by
  obtain ⟨q0, q1, q2, q3, q4, q5, qf⟩ := h
  exact ⟨by simp [go_sem, *], by simp [go_sem, *], by simp [go_sem, *], by simp [go_sem, *], by simp [go_sem, *], by simp [go_sem, *], fun k => by simp [go_sem, qf]⟩
theorem SumAt.set5 {w : World} {p : Nat} {mb : Option Nat} {n1 n2 n3 n4 n5 : Int} (h : SumAt w p mb n1 n2 n3 n4 n5) (v : Int) : SumAt (w.setCell ⟨p, 5, none⟩ (.int .i64 v)) p mb n1 n2 n3 n4 v := by
  obtain ⟨q0, q1, q2, q3, q4, q5, qf⟩ := h
  exact ⟨by simp [go_sem, *], by simp [go_sem, *], by simp [go_sem, *], by simp [go_sem, *], by simp [go_sem, *], by simp [go_sem, *], fun k => by simp [go_sem, qf]⟩
theorem SumAt.drew {w : World} {p : Nat} {mb : Option Nat} {n1 n2 n3 n4 n5 : Int} (h : SumAt w p mb n1 n2 n3 n4 n5) : SumAt w.drew p mb n1 n2 n3 n4 n5 := ⟨h.c0, h.c1, h.c2, h.c3, h.c4, h.c5, h.f⟩
theorem lt_of_cell {w : World} {p k : Nat} {v : Value} (h : w.cell? ⟨p, k, none⟩ = some v) : p < w.heap.size := by
  apply Classical.byContradiction
  intro hn
  have : w.heap[p]? = none := by simp; omega
  simp [World.cell?, this] at h

/-- every block but p and the map's is as it was -/
structure But (p : Nat) (mb : Option Nat) (w w' : World) : Prop where
  os : w'.os = w.os
  tape : w'.tape = w.tape
  output : w'.output = w.output
  size : w.heap.size ≤ w'.heap.size
  block : ∀ k, k < w.heap.size → k ≠ p → mb ≠ some k → w'.heap[k]? = w.heap[k]?

theorem But.setCell {p : Nat} {mb : Option Nat} {w w' : World} (h : But p mb w w') (k : Nat) (u : Value) : But p mb w (w'.setCell ⟨p, k, none⟩ u) :=
  ⟨h.os, h.tape, h.output, by simpa [World.setCell] using h.size, fun j hj hp hm => by rw [Below.heap_setCell _ _ _ _ hp]; exact h.block j hj hp hm⟩
theorem But.drew {p : Nat} {mb : Option Nat} {w w' : World} (h : But p mb w w') : But p mb w w'.drew := ⟨h.os, h.tape, h.output, h.size, h.block⟩
theorem But.of_grown {p : Nat} {mb : Option Nat} {w w' : World} {o : Obj} (h : (w.alloc o).grownBy w' mb) : But p mb w w' :=
  ⟨h.os, h.tape, h.output, Nat.le_trans (by simp) h.size, fun j hj _ hm => by rw [h.block j (by simp; omega) (fun e => hm e.symm), Below.heap_alloc _ _ _ hj]⟩
theorem Cnts.setCell {g n : Nat} {D : DataW Unit} {w : World} (h : Cnts g n D w) {p k : Nat} (hp : p ≠ g) (u : Value) : Cnts g n D (w.setCell ⟨p, k, none⟩ u) :=
  World.ownsMap.setCell h (fun e => hp e.symm) u

set_option maxHeartbeats 1000000 in
theorem add_some (p g1 g2 N1 N2 : Nat) (n1 n2 n3 n4 n5 m1 m2 m3 m4 m5 : Int) (D1 D2 : DataW Unit) (w : World) (hS : SumAt w p (some g1) n1 n2 n3 n4 n5) (h1 : Cnts g1 N1 D1 w) (h2 : Cnts g2 N2 D2 w) (hne : g1 ≠ g2) (hN : N1 + size D2 < maxLen) :
    Calls Try.prog 15 #[.pointer (some ⟨p, 0, none⟩), .agg #[.map (some g2), .int .i64 m1, .int .i64 m2, .int .i64 m3, .int .i64 m4, .int .i64 m5]] w fun e w' => e = .returned (.tuple #[]) ∧
      SumAt w' p (some g1) (adds n1 m1) (adds n2 m2) (adds n3 m3) (adds n4 m4) (adds n5 m5) ∧ (∃ D, Cnts g1 (N1 + size D2) D w' ∧ Adds D D1 D2 (fun _ => false)) ∧ But p (some g1) w w' := by
  have hpw : p < w.heap.size := lt_of_cell hS.c0
  have hpg : p ≠ g1 := by
    rintro rfl
    obtain ⟨E, c, hg, _⟩ := h1
    have := hS.c0
    simp [World.cell?, hg] at this
  have hg1 : g1 < w.heap.size := World.ownsMap.lt h1
  have hg2 : g2 < w.heap.size := World.ownsMap.lt h2
  have HS : Hid (SumAt w p (some g1) n1 n2 n3 n4 n5) := hS
  have H1 : Hid (Cnts g1 N1 D1 w) := h1
  have H2 : Hid (Cnts g2 N2 D2 w) := h2
  clear hS h1 h2
  have e1 : ∀ o, (w.alloc o).heap.size = w.heap.size + 1 := by intro o; simp
  have hH : ∀ o, Hid (Cnts g2 N2 D2 (w.alloc o)) := fun o => World.ownsMap.alloc H2.out o
  go_enter Try.func15, Try.ntmps15
  go_wp2_with (first
    | (at_range; refine wpList_range_own _ rfl _ 27 rfl 34 3 law34 Try.underlying27 _ g2 N2 D2 rfl (hH _).out ?_; intro w0 hrg0 hg0 hs0)
    | go_in)
  go_frame
  rw [e1] at hrg0 hs0 ⊢
  go_loopw [4, 5] (fun _ _ wr => ∃ (left : Lit → Bool) (cnt : Nat) (D : DataW Unit), wr.ranges Try.prog 34 (plainElem Try.prog 3) g2 (w.heap.size + 1) N2 D2 left cnt ∧ cnt ≤ size D2 ∧
      Hid (Cnts g1 (N1 + (size D2 - cnt)) D wr) ∧ Hid (Adds D D1 D2 left) ∧ Hid ((w.alloc (.cells #[.map (some g2), .int .i64 m1, .int .i64 m2, .int .i64 m3, .int .i64 m4, .int .i64 m5] 30)).grownBy wr (some g1)))
    (fun _ _ wr => wr.rangeLeft g2 (w.heap.size + 1))
  case atStart =>
    exact ⟨_, _, D1, hrg0, Nat.le_refl _, by rw [Nat.sub_self]; exact World.ownsMap.kept (World.ownsMap.alloc H1.out _) hg0 (by simp), Adds.start D1 D2, hg0.but _⟩
  case round =>
    obtain ⟨left, cnt, D, hrg, hcs, HC, HA, HG⟩ := hrel
    have hsum : SumAt wr p (some g1) n1 n2 n3 n4 n5 := (HS.out.block (Below.heap_alloc w _ p hpw)).block (HG.out.block p (by simp; omega) (by simpa using hpg))
    go_wp2_with (first
      | (at_next; refine wpList_next_ranges _ rfl _ rfl 34 law34 _ Value.string (Value.int .i64) (fun key kl h => by obtain ⟨s, h, _⟩ := key_inv h; exact ⟨s, h⟩) (fun v y h => by obtain ⟨c, h, _⟩ := plainElem_int_inv Try.underlying3 h; exact ⟨c, h⟩) g2 (w.heap.size + 1) N2 _ _ _ rfl hrg ?_ ?_)
      | go_in)
    · intro hc0 hl0
      have hbx : wr.heap[w.heap.size]? = (w.alloc (.cells #[.map (some g2), .int .i64 m1, .int .i64 m2, .int .i64 m3, .int .i64 m4, .int .i64 m5] 30)).heap[w.heap.size]? := HG.out.block w.heap.size (by simp) (by simp; omega)
      have b1 : wr.cell? ⟨w.heap.size, 1, none⟩ = some (.int .i64 m1) := by rw [World.cell?_of_block (w := w.alloc _) hbx]; simp
      have b2 : wr.cell? ⟨w.heap.size, 2, none⟩ = some (.int .i64 m2) := by rw [World.cell?_of_block (w := w.alloc _) hbx]; simp
      have b3 : wr.cell? ⟨w.heap.size, 3, none⟩ = some (.int .i64 m3) := by rw [World.cell?_of_block (w := w.alloc _) hbx]; simp
      have b4 : wr.cell? ⟨w.heap.size, 4, none⟩ = some (.int .i64 m4) := by rw [World.cell?_of_block (w := w.alloc _) hbx]; simp
      have b5 : wr.cell? ⟨w.heap.size, 5, none⟩ = some (.int .i64 m5) := by rw [World.cell?_of_block (w := w.alloc _) hbx]; simp
      have HSM : Hid (SumAt wr p (some g1) n1 n2 n3 n4 n5) := hsum
      obtain ⟨q0, q1, q2, q3, q4, q5, qf⟩ := hsum
      have hp1 : p ≠ w.heap.size := by omega
      have hp2 : w.heap.size ≠ p := by omega
      have HA0 : Hid (Adds D D1 D2 (fun _ => false)) := by have : left = fun _ => false := funext hl0; rw [← this]; exact HA.out
      clear hbx hrg hl0 HA
      have HBT : Hid (But p (some g1) w wr) := But.of_grown HG.out
      have HCN : Hid (Cnts g1 (N1 + size D2) D wr) := World.ownsMap.mono HC.out (by omega)
      have X1 : Hid (SumAt (((((wr.setCell ⟨p, 1, none⟩ (.int .i64 (wrap64 (n1 + m1)))).setCell ⟨p, 2, none⟩ (.int .i64 (wrap64 (n2 + m2)))).setCell ⟨p, 3, none⟩ (.int .i64 (wrap64 (n3 + m3)))).setCell ⟨p, 4, none⟩ (.int .i64 (wrap64 (n4 + m4)))).setCell ⟨p, 5, none⟩ (.int .i64 (wrap64 (n5 + m5)))) p (some g1) (adds n1 m1) (adds n2 m2) (adds n3 m3) (adds n4 m4) (adds n5 m5)) := ((((HSM.out.set1 _).set2 _).set3 _).set4 _).set5 _
      have X2 : Hid (Cnts g1 (N1 + size D2) D (((((wr.setCell ⟨p, 1, none⟩ (.int .i64 (wrap64 (n1 + m1)))).setCell ⟨p, 2, none⟩ (.int .i64 (wrap64 (n2 + m2)))).setCell ⟨p, 3, none⟩ (.int .i64 (wrap64 (n3 + m3)))).setCell ⟨p, 4, none⟩ (.int .i64 (wrap64 (n4 + m4)))).setCell ⟨p, 5, none⟩ (.int .i64 (wrap64 (n5 + m5))))) := ((((HCN.out.setCell hpg _).setCell hpg _).setCell hpg _).setCell hpg _).setCell hpg _
      have X3 : Hid (But p (some g1) w (((((wr.setCell ⟨p, 1, none⟩ (.int .i64 (wrap64 (n1 + m1)))).setCell ⟨p, 2, none⟩ (.int .i64 (wrap64 (n2 + m2)))).setCell ⟨p, 3, none⟩ (.int .i64 (wrap64 (n3 + m3)))).setCell ⟨p, 4, none⟩ (.int .i64 (wrap64 (n4 + m4)))).setCell ⟨p, 5, none⟩ (.int .i64 (wrap64 (n5 + m5))))) := ((((HBT.out.setCell _ _).setCell _ _).setCell _ _).setCell _ _).setCell _ _
      go_wp2
      go_region
      go_wp2
      go_region
      go_wp2
      go_region
      go_wp2
      go_region
      go_wp2
      go_region
      go_wp2
      go_end0
      refine ⟨rfl, ?_, ⟨D, ?_, HA0.out⟩, ?_⟩
      · exact X1.out.drew.drew.drew.drew.drew
      · exact X2.out.drew.drew.drew.drew.drew
      · exact X3.out.drew.drew.drew.drew.drew
    · intro x c kl yd yp w1 cnt1 hkey hlk hv hat hrg1 hlt hg1' hs1 hen
      obtain ⟨x', ex, rfl, hxs⟩ := key_inv hkey
      cases ex
      obtain ⟨c', ec, hyd, hcw⟩ := plainElem_int_inv Try.underlying3 hv
      cases ec
      cases hyd
      have HAT : Hid (∀ zd, D2.atKey (keyLit x) zd = num c) := hat
      have HLK : Hid (left (keyLit x) = true) := hlk
      clear hat hlk hv hkey hcw
      have hsum1 : SumAt w1 p (some g1) n1 n2 n3 n4 n5 := hsum.block (hg1'.block p (by have := HG.out.size; simp at this; omega) (by simp; omega))
      have q0 := hsum1.c0
      have HC1 : Hid (Cnts g1 (N1 + (size D2 - cnt)) D w1) := World.ownsMap.kept HC.out hg1' (by simp; omega)
      have hlook := (HC1.out.look hxs).1
      obtain ⟨w2, hup, hcn, hgr⟩ := HC1.out.upd (by omega) hxs (m := adds (valAt D (keyLit x)) c) (wrap64_wf _)
      have hrg2 := hrg1.kept hgr (by simpa using fun e => hne e.symm) (by simp; omega)
      have HC2 : Hid (Cnts g1 (N1 + (size D2 - cnt1)) (D.put (keyLit x) (num (adds (valAt D (keyLit x)) c))) w2) := World.ownsMap.mono hcn (by omega)
      have HA2 : Hid (Adds (D.put (keyLit x) (num (adds (valAt D (keyLit x)) c))) D1 D2 (fun z => left z && !z.sameKey (keyLit x))) := HA.out.step (World.ownsMap.isMap HC.out) HLK.out HAT.out
      have HG2 := (HG.out.andThen hg1' (fun j hj => by cases hj; left; simp)).andThen hgr (fun j hj => by cases hj; right; rfl)
      clear hcn hgr hsum hsum1
      unfold adds at hup
      go_wp2
      go_roundw
      case rel => exact ⟨_, cnt1, _, hrg2, by omega, HC2, HA2, HG2⟩
      case measure => rw [hrg2.left_eq, hrg.left_eq]; exact hlt

end Go.Proofs.Qxb6601120a
