/-
  The row's step for 'Rows.FnSummaryAddIsPointwiseSumSaid': the frame is the guide's template for arguments that are only read ('Below'); two structs by value of seven one-cell fields, the slice in each opened by Derived.Deep.SlicePairs.
-/
import Derived.Test.Qxb6601120aSumL
import Derived.WalkKit
import Derived.ProofKit
import Derived.OpenShut
import Derived.ShutString
import Derived.ChangeOld
import Derived.Below
import Derived.Deep.SlicePairs
import Derived.SliceStrings
namespace Go.Proofs.Qxb6601120a.fnSummaryAddIsPointwiseSum
open Go.ChangeShapes Go.WideShapes Go.ChangeAt Go.RowKit
open Go.Deep
set_option linter.unusedVariables false

theorem own : ownKnob Try.prog.godebug = none := by kernel_rfl
theorem laidOut : laidOutB Try.prog = true := by kernel_rfl

theorem list_of {α : Type} {n : Nat} {Q : Nat → α → Prop} (h : ∀ i, i < n → ∃ p, Q i p) : ∃ ps : List α, ps.length = n ∧ ∀ i p, ps[i]? = some p → Q i p := by
  induction n with
  | zero => exact ⟨[], rfl, fun i p hp => by simp at hp⟩
  | succ n ih =>
    obtain ⟨ps, hl, hq⟩ := ih (fun i hi => h i (by omega))
    obtain ⟨p, hp⟩ := h n (by omega)
    refine ⟨ps ++ [p], by simp [hl], fun i q hq' => ?_⟩
    by_cases e : i < ps.length
    · rw [List.getElem?_append_left e] at hq'; exact hq i q hq'
    · have hi : i = n := by
        have := (List.getElem?_eq_some_iff.1 hq').1
        simp at this
        omega
      subst hi
      rw [List.getElem?_append_right (by omega), hl] at hq'
      simp at hq'
      subst hq'
      exact hp

theorem array7 {α : Type} {cs : Array α} (h : cs.size = 7) : ∃ c0 c1 c2 c3 c4 c5 c6, cs = #[c0, c1, c2, c3, c4, c5, c6] := by
  obtain ⟨l⟩ := cs
  match l, h with
  | [c0, c1, c2, c3, c4, c5, c6], _ => exact ⟨c0, c1, c2, c3, c4, c5, c6, rfl⟩

/-- what the walk asks of one argument -/
def ArgOk (W : World) (v : Value) (a : Option Addr) (cap : Nat) (es : List (ByteArray × Int)) (nb : Bool) (n1 n2 n3 n4 n5 : Int) : Prop :=
  v = .agg #[.slice a es.length cap, .bool nb, .int .i64 n1, .int .i64 n2, .int .i64 n3, .int .i64 n4, .int .i64 n5] ∧ es.length ≤ 9223372036854775807 ∧ SizesOk es ∧ WfAll es ∧ EntsAt W a es

theorem slice_ok {H : Type} {enc : TypeId × Value → H} {W : World} {n : Nat} {v : Value} {x : DataW H × List MemPlace} (h : DataW.trod enc Try.prog W 0 (fun _ => true) true n 22 [v] = some x) :
    ∃ a cap es, v = .slice a es.length cap ∧ es.length ≤ 9223372036854775807 ∧ SizesOk es ∧ WfAll es ∧ EntsAt W a es := by
  rcases open_slice_pairs Try.underlying22 Try.underlying36 (by kernel_rfl) rfl rfl (by kernel_rfl) (by kernel_rfl) h with ⟨hcs, _⟩ | ⟨a, len, cap, m, k, V0, V1, D0, D1, P0, P1, hcs, _, hl, hm, hmm, _, hx⟩
  · simp at hcs
    exact ⟨none, 0, [], hcs, by simp, fun e he => by simp at he, fun e he => by simp at he, fun i hi => by simp at hi⟩
  · simp at hcs
    simp only [if_true] at hmm
    have each : ∀ i, i < len → ∃ p : ByteArray × Int, V0 i = .string p.1 ∧ V1 i = .int .i64 p.2 ∧ p.1.size ≤ maxLen ∧ (Lit.int .i64 p.2).wf = true := by
      intro i hi
      obtain ⟨_, _, h0, h1⟩ := hx i (by omega)
      obtain ⟨s, e0, _, hs⟩ := DataW.trod_string Try.underlying9 h0
      obtain ⟨kd, e1, _, hk⟩ := DataW.trod_int Try.underlying3 h1
      exact ⟨(s, kd), by simpa using e0, by simpa using e1, hs, hk⟩
    obtain ⟨es, hpl, hq⟩ := list_of each
    unfold maxLen at hm
    refine ⟨some a, cap, es, by rw [hpl]; exact hcs, by omega, fun e he => ?_, fun e he => ?_, fun i hi => ?_⟩
    · obtain ⟨i, hi⟩ := List.mem_iff_getElem?.1 he
      have := (hq i e hi).2.2.1
      unfold maxLen at this
      exact this
    · obtain ⟨i, hi⟩ := List.mem_iff_getElem?.1 he
      exact (hq i e hi).2.2.2
    · have hp : es[i]? = some es[i] := List.getElem?_eq_getElem hi
      obtain ⟨e0, e1, _, _⟩ := hq i _ hp
      obtain ⟨c0, c1, _, _⟩ := hx i (by omega)
      obtain ⟨z0, _, _, _⟩ := hx 0 (by omega)
      obtain ⟨b, off, spot⟩ := a
      have hspot : spot = none := by
        have := World.cell?_spot z0
        simpa [Addr.add] using this
      subst hspot
      rw [add_plain] at c0 c1
      exact ⟨b, off, es[i], rfl, hp, lt_of_cell c0, by rw [c0, e0], by rw [Nat.add_assoc, c1, e1]⟩

theorem arg_of {H : Type} {enc : TypeId × Value → H} {W : World} {r : Reach} {b0 : Nat} {v : Value} {d : DataW H} {p : List MemPlace} (hv : Value.okWide Try.prog W r b0 24 v) (h : DataW.Trod enc Try.prog W 0 (fun _ => true) true 24 v d p) :
    ∃ a cap es nb n1 n2 n3 n4 n5, ArgOk W v a cap es nb n1 n2 n3 n4 n5 := by
  obtain ⟨cs, rfl, hsz⟩ := okWide_struct Try.underlying24 hv
  have c24 : Try.prog.cellsOf 24 = 7 := by kernel_rfl
  have c22 : Try.prog.cellsOf 22 = 1 := by kernel_rfl
  have c4 : Try.prog.cellsOf 4 = 1 := by kernel_rfl
  have c3 : Try.prog.cellsOf 3 = 1 := by kernel_rfl
  obtain ⟨x0, x1, x2, x3, x4, x5, x6, rfl⟩ := array7 (hsz.trans c24)
  obtain ⟨fuel, hf⟩ := h
  obtain ⟨xs, n, _, _, _, hlen, hq⟩ := DataW.trod_struct Try.underlying24 hf
  have hlen' : xs.length = 7 := by simpa using hlen
  have k0 : DataW.trod enc Try.prog W 0 (fun _ => true) true n 22 [x0] = some (xs[0]'(by omega)) := by
    rw [← List.getElem?_eq_getElem]
    simpa [Value.cells, c22] using hq 0 _ rfl
  have k1 : DataW.trod enc Try.prog W 0 (fun _ => true) true n 4 [x1] = some (xs[1]'(by omega)) := by
    rw [← List.getElem?_eq_getElem]
    simpa [Value.cells, c4] using hq 1 _ rfl
  have k2 : DataW.trod enc Try.prog W 0 (fun _ => true) true n 3 [x2] = some (xs[2]'(by omega)) := by
    rw [← List.getElem?_eq_getElem]
    simpa [Value.cells, c3] using hq 2 _ rfl
  have k3 : DataW.trod enc Try.prog W 0 (fun _ => true) true n 3 [x3] = some (xs[3]'(by omega)) := by
    rw [← List.getElem?_eq_getElem]
    simpa [Value.cells, c3] using hq 3 _ rfl
  have k4 : DataW.trod enc Try.prog W 0 (fun _ => true) true n 3 [x4] = some (xs[4]'(by omega)) := by
    rw [← List.getElem?_eq_getElem]
    simpa [Value.cells, c3] using hq 4 _ rfl
  have k5 : DataW.trod enc Try.prog W 0 (fun _ => true) true n 3 [x5] = some (xs[5]'(by omega)) := by
    rw [← List.getElem?_eq_getElem]
    simpa [Value.cells, c3] using hq 5 _ rfl
  have k6 : DataW.trod enc Try.prog W 0 (fun _ => true) true n 3 [x6] = some (xs[6]'(by omega)) := by
    rw [← List.getElem?_eq_getElem]
    simpa [Value.cells, c3] using hq 6 _ rfl
  obtain ⟨a, cap, es, rfl, h1, h2, h3, h4⟩ := slice_ok k0
  obtain ⟨nb, e1, _⟩ := DataW.trod_bool Try.underlying4 k1
  obtain ⟨n1, e2, _⟩ := DataW.trod_int Try.underlying3 k2
  obtain ⟨n2, e3, _⟩ := DataW.trod_int Try.underlying3 k3
  obtain ⟨n3, e4, _⟩ := DataW.trod_int Try.underlying3 k4
  obtain ⟨n4, e5, _⟩ := DataW.trod_int Try.underlying3 k5
  obtain ⟨n5, e6, _⟩ := DataW.trod_int Try.underlying3 k6
  simp only [List.cons.injEq, and_true] at e1 e2 e3 e4 e5 e6
  subst e1 e2 e3 e4 e5 e6
  exact ⟨a, cap, es, nb, n1, n2, n3, n4, n5, rfl, h1, h2, h3, h4⟩

set_option maxRecDepth 100000 in
theorem lifted (os : Os) (started : os.Started) (H : Type) (enc : TypeId × Value → H) :
    ReturnsInHanded {} Try.checked os 3 .any (Rows.fnSummaryAddIsPointwiseSumSpec.pre6 enc Try.prog Try.f3 Rows.fnSummaryAddIsPointwiseSumRow.domain false) (Rows.fnSummaryAddIsPointwiseSumSpec.post enc Try.prog Try.f3 false true false false) := by
  refine returnsInHanded_of_change (C := Try.checked) own started (by kernel_rfl) Try.func3
    (ChangeSpec.witness6 (enc := enc) (C := Try.checked) false ⟨#[], #[.agg #[.slice none 0 0, .bool false, .int .i64 0, .int .i64 0, .int .i64 0, .int .i64 0, .int .i64 0], .agg #[.slice none 0 0, .bool false, .int .i64 0, .int .i64 0, .int .i64 0, .int .i64 0, .int .i64 0]], []⟩ 8 (by kernel_rfl) (by kernel_rfl) (by kernel_rfl) (by kernel_rfl)) ?_
  intro W base args ds gs before hval0 hW hcnd _
  have hval : ∀ (j : Nat) t v, Try.f3.params[j]? = some t → args[j]? = some v → Value.okWide Try.prog W .any base t v := hval0
  have hW' := hW
  obtain ⟨p, q, hA0, hV, rfl, hfz, hnd⟩ := hW
  have hA : DataW.TrodAll enc Try.prog W 0 (fun _ => true) true Try.f3.params.toList args.toList ds p := hA0
  rw [Try.params3] at hA hval
  obtain ⟨v0, vs0, d0, ds0, p0, q0, hargs, rfl, rfl, h0, r0⟩ := trodAll_cons hA
  obtain ⟨v1, vs1, d1, ds1, p1, q1, rfl, rfl, rfl, h1, r1⟩ := trodAll_cons r0
  obtain ⟨rfl, rfl, rfl⟩ := trodAll_nil r1
  obtain rfl : args = #[v0, v1] := by cases args; simp_all
  obtain ⟨rfl, rfl⟩ := trodVars_none hV
  have k0 := h0
  have k1 := h1
  have lt0 : ∀ x ∈ p0, x.block < W.heap.size := by obtain ⟨m, hm⟩ := k0; exact DataW.trod_lt m _ _ _ hm
  have lt1 : ∀ x ∈ p1, x.block < W.heap.size := by obtain ⟨m, hm⟩ := k1; exact DataW.trod_lt m _ _ _ hm
  obtain ⟨a, cap, es, nb, n1, n2, n3, n4, n5, rfl, g1, g2, g3, g4⟩ := arg_of (hval 0 24 v0 rfl rfl) h0
  obtain ⟨a', cap', es', nb', m1, m2, m3, m4, m5, rfl, g1', g2', g3', g4'⟩ := arg_of (hval 1 24 v1 rfl rfl) h1
  clear hA0 hval0
  refine (law3 a cap es nb n1 n2 n3 n4 n5 a' cap' es' nb' m1 m2 m3 m4 m5 W g1 g2 g3 g4 g1' g2' g3' g4').mono fun e W' ⟨he, bel⟩ => ?_
  subst he
  exact ⟨_, rfl, _, _, _, [], _, [], hW', trodAll_mk1 (shut_bool Try.underlying4 _), (trodAll_cons_mk (Below.trod laidOut (by kernel_rfl) (of_decide_eq_true (by kernel_rfl)) k0 bel lt0) (trodAll_cons_mk (Below.trod laidOut (by kernel_rfl) (of_decide_eq_true (by kernel_rfl)) k1 bel lt1) trodAll_mk0)), rfl, bel.frame _, fun h => by cases h⟩

end Go.Proofs.Qxb6601120a.fnSummaryAddIsPointwiseSum
