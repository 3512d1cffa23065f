/-
  The row's step for 'Rows.FnAlternateFactsMatchesCaseTableSaid': the frame is the guide's template for a slice that is only read ('Below'), its argument opened by Derived.Deep.SlicePairs and Derived.SliceStrings.
-/
import Derived.Test.Qxb6601111aAltL
import Derived.WalkKit
import Derived.ProofKit
import Derived.OpenShut
import Derived.ShutString
import Derived.ChangeOld
import Derived.Below
import Derived.Deep.SlicePairs
import Derived.SliceStrings
namespace Go.Proofs.Qxb6601111a.fnAlternateFactsMatchesCaseTable
open Go.ChangeShapes Go.WideShapes Go.ChangeAt Go.RowKit
open Go.Deep
set_option linter.unusedVariables false

theorem own : ownKnob Try.prog.godebug = none := by kernel_rfl
theorem laidOut : laidOutB Try.prog = true := by kernel_rfl

theorem list_of {α : Type} {n : Nat} {Q : Nat → α → Prop} (h : ∀ i, i < n → ∃ p, Q i p) : ∃ ps : List α, ps.length = n ∧ ∀ i p, ps[i]? = some p → Q i p := by
  induction n with
  | zero => exact ⟨[], rfl, fun i p hp => by simp at hp⟩
  | succ n ih =>
    obtain ⟨ps, hl, hq⟩ := ih (fun i hi => h i (by omega))
    obtain ⟨p, hp⟩ := h n (by omega)
    refine ⟨ps ++ [p], by simp [hl], fun i q hq' => ?_⟩
    by_cases e : i < ps.length
    · rw [List.getElem?_append_left e] at hq'; exact hq i q hq'
    · have hi : i = n := by
        have := (List.getElem?_eq_some_iff.1 hq').1
        simp at this
        omega
      subst hi
      rw [List.getElem?_append_right (by omega), hl] at hq'
      simp at hq'
      subst hq'
      exact hp

/-- one set read: its slice, its strings -/
def SetOk (W : World) (v : Value) (a : Option Addr) (cap : Nat) (ss : List ByteArray) : Prop :=
  v = .slice a ss.length cap ∧ StrsAt W a ss ∧ (a = none → ss = [] ∧ cap = 0) ∧ ss.length ≤ maxLen ∧ ∀ s ∈ ss, s.size ≤ maxLen

theorem set_ok {H : Type} {enc : TypeId × Value → H} {W : World} {n : Nat} {v : Value} {x : DataW H × List MemPlace} (h : DataW.trod enc Try.prog W 0 (fun _ => true) true n 29 [v] = some x) : ∃ a cap ss, SetOk W v a cap ss := by
  rcases open_strings Try.underlying29 Try.underlying9 (by kernel_rfl) h with ⟨hcs, _⟩ | ⟨x, len, cap, ss, hcs, _, hl, hm, hss, _, hcell, hsz⟩
  · simp at hcs
    exact ⟨none, 0, [], hcs, fun j hj => by simp at hj, fun _ => ⟨rfl, rfl⟩, by simp, fun s hs => by simp at hs⟩
  · simp at hcs
    simp only [if_true] at hss
    have htl : (ss.take len).length = len := by simp; omega
    refine ⟨some x, cap, ss.take len, by rw [htl]; exact hcs, fun j hj => ?_, (by intro e; cases e), by rw [htl]; omega, fun s hs => hsz s (List.mem_of_mem_take hs)⟩
    rw [htl] at hj
    have hc := hcell j (by omega)
    have hz := hcell 0 (by omega)
    obtain ⟨b, off, spot⟩ := x
    have hspot : spot = none := by
      have := World.cell?_spot hz
      simpa [Addr.add] using this
    subst hspot
    refine ⟨b, off, rfl, ?_⟩
    rw [← add_plain, hc]
    congr 2
    simp [List.getD, hj]

theorem arg_of {H : Type} {enc : TypeId × Value → H} {W : World} {n : Nat} {a0 : Option Addr} {len0 cap0 : Nat} {x : DataW H × List MemPlace} (h : DataW.trod enc Try.prog W 0 (fun _ => true) true n 22 (Value.slice a0 len0 cap0).cells.toList = some x) :
    ∃ ps : List Prt, ps.length = len0 ∧ Arg W a0 cap0 ps := by
  rcases open_slice_pairs Try.underlying22 Try.underlying39 (by kernel_rfl) rfl rfl (by kernel_rfl) (by kernel_rfl) h with ⟨hcs, _⟩ | ⟨a, len, cap, m, k, V0, V1, D0, D1, P0, P1, hcs, _, hl, hm, hmm, _, hx⟩
  · simp [Value.cells] at hcs
    obtain ⟨rfl, rfl, rfl⟩ := hcs
    exact ⟨[], rfl, ⟨by simp, fun p hp => by simp at hp, fun p hp => by simp at hp, fun i hi => by simp at hi, fun p hp => by simp at hp, fun _ => ⟨rfl, rfl⟩⟩⟩
  · simp [Value.cells] at hcs
    obtain ⟨rfl, rfl, rfl⟩ := hcs
    simp only [if_true] at hmm
    have each : ∀ i, i < len0 → ∃ p : Prt, V0 i = .int .i64 p.kind ∧ SetOk W (V1 i) p.addr p.cap p.ss := by
      intro i hi
      obtain ⟨_, _, h0, h1⟩ := hx i (by omega)
      obtain ⟨kd, e0, _, _⟩ := DataW.trod_int Try.underlying3 h0
      obtain ⟨sa, sc, ss, hs⟩ := set_ok h1
      exact ⟨⟨kd, sa, sc, ss⟩, by simpa using e0, hs⟩
    obtain ⟨ps, hpl, hq⟩ := list_of each
    unfold maxLen at hm
    refine ⟨ps, hpl, ⟨by omega, fun p hp => ?_, fun p hp s hs => ?_, fun i hi => ?_, fun p hp => ?_, (by intro e; cases e)⟩⟩
    · obtain ⟨i, hi⟩ := List.mem_iff_getElem?.1 hp
      have := (hq i p hi).2.2.2.2.1
      unfold maxLen at this
      exact this
    · obtain ⟨i, hi⟩ := List.mem_iff_getElem?.1 hp
      have := (hq i p hi).2.2.2.2.2 s hs
      unfold maxLen at this
      exact this
    · have hp : ps[i]? = some ps[i] := List.getElem?_eq_getElem hi
      obtain ⟨e0, hs⟩ := hq i _ hp
      obtain ⟨c0, c1, _, _⟩ := hx i (by omega)
      obtain ⟨z0, _, _, _⟩ := hx 0 (by omega)
      obtain ⟨b, off, spot⟩ := a
      have hspot : spot = none := by
        have := World.cell?_spot z0
        simpa [Addr.add] using this
      subst hspot
      rw [add_plain] at c0 c1
      exact ⟨b, off, ps[i], rfl, hp, by rw [c0, e0], by rw [Nat.add_assoc, c1, hs.1], hs.2.1⟩
    · obtain ⟨i, hi⟩ := List.mem_iff_getElem?.1 hp
      exact (hq i p hi).2.2.2.1

set_option maxRecDepth 100000 in
theorem lifted (os : Os) (started : os.Started) (H : Type) (enc : TypeId × Value → H) :
    ReturnsInHanded {} Try.checked os 3 .any (Rows.fnAlternateFactsMatchesCaseTableSpec.pre6 enc Try.prog Try.f3 Rows.fnAlternateFactsMatchesCaseTableRow.domain false) (Rows.fnAlternateFactsMatchesCaseTableSpec.post enc Try.prog Try.f3 false true false false) := by
  refine returnsInHanded_of_change (C := Try.checked) own started (by kernel_rfl) Try.func3
    (ChangeSpec.witness6 (enc := enc) (C := Try.checked) false ⟨#[], #[.slice none 0 0], []⟩ 8 (by kernel_rfl) (by kernel_rfl) (by kernel_rfl) (by kernel_rfl)) ?_
  intro W base args ds gs before hval0 hW hcnd _
  have hval : ∀ (j : Nat) t v, Try.f3.params[j]? = some t → args[j]? = some v → Value.okWide Try.prog W .any base t v := hval0
  have hW' := hW
  obtain ⟨p, q, hA0, hV, rfl, hfz, hnd⟩ := hW
  have hA : DataW.TrodAll enc Try.prog W 0 (fun _ => true) true Try.f3.params.toList args.toList ds p := hA0
  rw [Try.params3] at hA hval
  obtain ⟨v0, vs0, d0, ds0, p0, q0, hargs, rfl, rfl, h0, r0⟩ := trodAll_cons hA
  obtain ⟨rfl, rfl, rfl⟩ := trodAll_nil r0
  obtain rfl : args = #[v0] := by cases args; simp_all
  obtain ⟨rfl, rfl⟩ := trodVars_none hV
  obtain ⟨a0, len0, cap0, rfl⟩ := okWide_slice Try.underlying22 (hval 0 22 v0 rfl rfl)
  have k0 := h0
  have lt0 : ∀ x ∈ p0, x.block < W.heap.size := by obtain ⟨m, hm⟩ := k0; exact DataW.trod_lt m _ _ _ hm
  obtain ⟨ps, hpl, harg⟩ : ∃ ps : List Prt, ps.length = len0 ∧ Arg W a0 cap0 ps := by
    obtain ⟨fuel, hf⟩ := h0
    exact arg_of hf
  subst hpl
  clear hA0 hval0
  refine (alternate_core a0 cap0 ps W harg).mono fun e W' ⟨he, bel⟩ => ?_
  subst he
  exact ⟨_, rfl, _, _, _, [], _, [], hW', trodAll_mk1 (shut_bool Try.underlying4 _), (trodAll_cons_mk (Below.trod laidOut (by kernel_rfl) (of_decide_eq_true (by kernel_rfl)) k0 bel lt0) trodAll_mk0), rfl, bel.frame _, fun h => by cases h⟩

end Go.Proofs.Qxb6601111a.fnAlternateFactsMatchesCaseTable
