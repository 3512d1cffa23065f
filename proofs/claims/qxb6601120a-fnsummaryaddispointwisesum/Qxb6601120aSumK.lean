import Derived.Test.Qxb6601120aSumP
namespace Go.Proofs.Qxb6601120a
open Go.RowKit
open Go.Maps (Keyed has size Canon)
open Go.WideMaps
set_option linter.unusedVariables false

/-- the two boxes, read in a later world -/
theorem boxes {w w2 : World} {x0 x1 x2 x3 x4 x5 x6 y0 y1 y2 y3 y4 y5 y6 : Value} (hb : Below (w.heap.size + 2) ((w.alloc (.cells #[x0, x1, x2, x3, x4, x5, x6] 24)).alloc (.cells #[y0, y1, y2, y3, y4, y5, y6] 24)) w2) :
    w2.cell? ⟨w.heap.size, 0, none⟩ = some x0 ∧ w2.cell? ⟨w.heap.size, 1, none⟩ = some x1 ∧ w2.cell? ⟨w.heap.size, 2, none⟩ = some x2 ∧ w2.cell? ⟨w.heap.size, 3, none⟩ = some x3 ∧ w2.cell? ⟨w.heap.size, 4, none⟩ = some x4 ∧ w2.cell? ⟨w.heap.size, 5, none⟩ = some x5 ∧ w2.cell? ⟨w.heap.size, 6, none⟩ = some x6 ∧ w2.cell? ⟨w.heap.size + 1, 0, none⟩ = some y0 ∧ w2.cell? ⟨w.heap.size + 1, 1, none⟩ = some y1 ∧ w2.cell? ⟨w.heap.size + 1, 2, none⟩ = some y2 ∧ w2.cell? ⟨w.heap.size + 1, 3, none⟩ = some y3 ∧ w2.cell? ⟨w.heap.size + 1, 4, none⟩ = some y4 ∧ w2.cell? ⟨w.heap.size + 1, 5, none⟩ = some y5 ∧ w2.cell? ⟨w.heap.size + 1, 6, none⟩ = some y6 :=
  ⟨by rw [hb.cell (by simp)]; simp, by rw [hb.cell (by simp)]; simp, by rw [hb.cell (by simp)]; simp, by rw [hb.cell (by simp)]; simp, by rw [hb.cell (by simp)]; simp, by rw [hb.cell (by simp)]; simp, by rw [hb.cell (by simp)]; simp, by rw [hb.cell (by simp)]; simp, by rw [hb.cell (by simp)]; simp, by rw [hb.cell (by simp)]; simp, by rw [hb.cell (by simp)]; simp, by rw [hb.cell (by simp)]; simp, by rw [hb.cell (by simp)]; simp, by rw [hb.cell (by simp)]; simp⟩

theorem Made.opt {B : Nat} {nb : Bool} {es : List (ByteArray × Int)} {mb : Option Nat} {w : World} (h : Made B nb es mb w) : Opt mb es.length (mapD es) w := by
  rcases h with ⟨rfl, _, rfl⟩ | ⟨g, rfl, _, h, _⟩
  · exact .inl ⟨rfl, rfl⟩
  · exact .inr ⟨g, rfl, h⟩
theorem Made.rng {B : Nat} {nb : Bool} {es : List (ByteArray × Int)} {mb : Option Nat} {w : World} (h : Made B nb es mb w) : ∀ g, mb = some g → B ≤ g ∧ g < w.heap.size := by
  rcases h with ⟨rfl, _, rfl⟩ | ⟨g, rfl, hB, h, _⟩
  · intro g e; cases e
  · intro g' e; cases e; exact ⟨hB, World.ownsMap.lt h⟩
theorem Made.nil {B : Nat} {nb : Bool} {es : List (ByteArray × Int)} {mb : Option Nat} {w : World} (h : Made B nb es mb w) : mb.isNone = (nb && es.isEmpty) := by
  rcases h with ⟨rfl, rfl, rfl⟩ | ⟨g, rfl, hB, h, hn⟩
  · rfl
  · cases nb
    · rfl
    · cases es
      · exact absurd ⟨rfl, rfl⟩ hn
      · rfl
theorem Opt.below {mb : Option Nat} {n : Nat} {D : DataW Unit} {w w' : World} (h : Opt mb n D w) (hb : Below w.heap.size w w') : Opt mb n D w' := by
  refine h.block (fun g hg => hb.block g ?_)
  rcases h with ⟨h, _⟩ | ⟨g', h, hc⟩
  · rw [h] at hg; cases hg
  · rw [h] at hg; cases hg; exact World.ownsMap.lt hc
theorem Opt.lt {mb : Option Nat} {n : Nat} {D : DataW Unit} {w : World} (h : Opt mb n D w) : ∀ g, mb = some g → g < w.heap.size := by
  intro g hg
  rcases h with ⟨h, _⟩ | ⟨g', h, hc⟩
  · rw [h] at hg; cases hg
  · rw [h] at hg; cases hg; exact World.ownsMap.lt hc
theorem Opt.canon {mb : Option Nat} {n : Nat} {D : DataW Unit} {w : World} (h : Opt mb n D w) : Canon D := by
  rcases h with ⟨_, rfl⟩ | ⟨g', h, hc⟩
  · exact Maps.canon_empty
  · exact World.ownsMap.canon hc law34
theorem Opt.size_le {mb : Option Nat} {n : Nat} {D : DataW Unit} {w : World} (h : Opt mb n D w) : size D ≤ n := by
  rcases h with ⟨_, rfl⟩ | ⟨g', h, hc⟩
  · exact Nat.zero_le _
  · exact World.ownsMap.size_le hc
theorem Opt.but {mb mbS : Option Nat} {n p : Nat} {D : DataW Unit} {w w' : World} (h : Opt mb n D w) (hb : But p mbS w w') (hp : ∀ g, mb = some g → g ≠ p ∧ mbS ≠ some g) : Opt mb n D w' :=
  h.block (fun g hg => hb.block g (h.lt g hg) (hp g hg).1 (hp g hg).2)
theorem Below.but {B p : Nat} {mbS : Option Nat} {w0 w w' : World} (h : Below B w0 w) (hb : But p mbS w w') (hB : B ≤ w.heap.size) (hp : B ≤ p) (hm : ∀ g, mbS = some g → B ≤ g) : Below B w0 w' :=
  ⟨hb.os.trans h.os, hb.tape.trans h.tape, hb.output.trans h.output, Nat.le_trans h.size hb.size, fun k hk => (hb.block k (by omega) (by omega) (fun e => by have := hm k e; omega)).trans (h.block k hk)⟩

def In2 (w : World) (a : Option Addr) (cap : Nat) (es : List (ByteArray × Int)) (nb : Bool) (n1 n2 n3 n4 n5 : Int) (a' : Option Addr) (cap' : Nat) (es' : List (ByteArray × Int)) (nb' : Bool) (m1 m2 m3 m4 m5 : Int) (w' : World) : Prop :=
  Below (w.heap.size + 2) ((w.alloc (.cells #[.slice a es.length cap, .bool nb, .int .i64 n1, .int .i64 n2, .int .i64 n3, .int .i64 n4, .int .i64 n5] 24)).alloc (.cells #[.slice a' es'.length cap', .bool nb', .int .i64 m1, .int .i64 m2, .int .i64 m3, .int .i64 m4, .int .i64 m5] 24)) w'

/-- all that is read behind the call of add -/
structure Fin (w : World) (a : Option Addr) (cap : Nat) (es : List (ByteArray × Int)) (nb : Bool) (n1 n2 n3 n4 n5 : Int) (a' : Option Addr) (cap' : Nat) (es' : List (ByteArray × Int)) (nb' : Bool) (m1 m2 m3 m4 m5 : Int) (mbA mbB mbS mbO : Option Nat) (p p8 : Nat) (D : DataW Unit) (N : Nat) (wk : World) : Prop where
  i : In2 w a cap es nb n1 n2 n3 n4 n5 a' cap' es' nb' m1 m2 m3 m4 m5 wk
  A : Opt mbA es.length (mapD es) wk
  B : Opt mbB es'.length (mapD es') wk
  O : Opt mbO es'.length (mapD es') wk
  S : Opt mbS N D wk
  sp : SumAt wk p mbS (adds n1 m1) (adds n2 m2) (adds n3 m3) (adds n4 m4) (adds n5 m5)
  op : SumAt wk p8 mbO m1 m2 m3 m4 m5

theorem In2.below {w : World} {a : Option Addr} {cap : Nat} {es : List (ByteArray × Int)} {nb : Bool} {n1 n2 n3 n4 n5 : Int} {a' : Option Addr} {cap' : Nat} {es' : List (ByteArray × Int)} {nb' : Bool} {m1 m2 m3 m4 m5 : Int} {wk wk' : World} (h : In2 w a cap es nb n1 n2 n3 n4 n5 a' cap' es' nb' m1 m2 m3 m4 m5 wk) (hb : Below wk.heap.size wk wk') : In2 w a cap es nb n1 n2 n3 n4 n5 a' cap' es' nb' m1 m2 m3 m4 m5 wk' :=
  Below.trans h (hb.mono (by have := Below.size h; simp at this; omega))
theorem SumAt.below {w w' : World} {p : Nat} {mb : Option Nat} {n1 n2 n3 n4 n5 : Int} (h : SumAt w p mb n1 n2 n3 n4 n5) (hb : Below w.heap.size w w') : SumAt w' p mb n1 n2 n3 n4 n5 := h.block (hb.block p (lt_of_cell h.c0))
theorem Fin.below {w : World} {a : Option Addr} {cap : Nat} {es : List (ByteArray × Int)} {nb : Bool} {n1 n2 n3 n4 n5 : Int} {a' : Option Addr} {cap' : Nat} {es' : List (ByteArray × Int)} {nb' : Bool} {m1 m2 m3 m4 m5 : Int} {mbA mbB mbS mbO : Option Nat} {p p8 : Nat} {D : DataW Unit} {N : Nat} {wk wk' : World} (h : Fin w a cap es nb n1 n2 n3 n4 n5 a' cap' es' nb' m1 m2 m3 m4 m5 mbA mbB mbS mbO p p8 D N wk) (hb : Below wk.heap.size wk wk') : Fin w a cap es nb n1 n2 n3 n4 n5 a' cap' es' nb' m1 m2 m3 m4 m5 mbA mbB mbS mbO p p8 D N wk' :=
  ⟨h.i.below hb, h.A.below hb, h.B.below hb, h.O.below hb, h.S.below hb, h.sp.below hb, h.op.below hb⟩

theorem SumAt.made (w : World) (mb : Option Nat) (n1 n2 n3 n4 n5 : Int) : SumAt (w.alloc (.cells #[.map mb, .int .i64 n1, .int .i64 n2, .int .i64 n3, .int .i64 n4, .int .i64 n5] 30)) w.heap.size mb n1 n2 n3 n4 n5 :=
  ⟨by simp, by simp, by simp, by simp, by simp, by simp, fun k => by simp [go_sem]⟩

/-- what stands ahead of the call of add -/
structure Pre (w : World) (a : Option Addr) (cap : Nat) (es : List (ByteArray × Int)) (nb : Bool) (n1 n2 n3 n4 n5 : Int) (a' : Option Addr) (cap' : Nat) (es' : List (ByteArray × Int)) (nb' : Bool) (m1 m2 m3 m4 m5 : Int) (mbA mbB mbS mbO : Option Nat) (p p8 : Nat) (wk : World) : Prop where
  i : In2 w a cap es nb n1 n2 n3 n4 n5 a' cap' es' nb' m1 m2 m3 m4 m5 wk
  A : Opt mbA es.length (mapD es) wk
  B : Opt mbB es'.length (mapD es') wk
  O : Opt mbO es'.length (mapD es') wk
  S : Opt mbS es.length (mapD es) wk
  sp : SumAt wk p mbS n1 n2 n3 n4 n5
  op : SumAt wk p8 mbO m1 m2 m3 m4 m5
  low : w.heap.size + 2 ≤ p ∧ ∀ g, mbS = some g → w.heap.size + 2 ≤ g
  ne8 : p8 ≠ p ∧ mbS ≠ some p8
  neA : ∀ g, mbA = some g → g ≠ p ∧ mbS ≠ some g
  neB : ∀ g, mbB = some g → g ≠ p ∧ mbS ≠ some g
  neO : ∀ g, mbO = some g → g ≠ p ∧ mbS ≠ some g

theorem pre_of {w : World} {a : Option Addr} {cap : Nat} {es : List (ByteArray × Int)} {nb : Bool} {n1 n2 n3 n4 n5 : Int} {a' : Option Addr} {cap' : Nat} {es' : List (ByteArray × Int)} {nb' : Bool} {m1 m2 m3 m4 m5 : Int} {mbA mbB mbS mbO : Option Nat} {w4 w5 w7 : World} (hi : In2 w a cap es nb n1 n2 n3 n4 n5 a' cap' es' nb' m1 m2 m3 m4 m5 w4) (hA : Opt mbA es.length (mapD es) w4) (hB : Opt mbB es'.length (mapD es') w4)
    (hmS : Made w4.heap.size nb es mbS w5) (hb5 : Below w4.heap.size w4 w5) (hmO : Made (w5.heap.size + 1) nb' es' mbO w7) (hb7 : Below (w5.heap.size + 1) (w5.alloc (.cells #[.map mbS, .int .i64 n1, .int .i64 n2, .int .i64 n3, .int .i64 n4, .int .i64 n5] 30)) w7) :
    Pre w a cap es nb n1 n2 n3 n4 n5 a' cap' es' nb' m1 m2 m3 m4 m5 mbA mbB mbS mbO w5.heap.size w7.heap.size (w7.alloc (.cells #[.map mbO, .int .i64 m1, .int .i64 m2, .int .i64 m3, .int .i64 m4, .int .i64 m5] 30)) := by
  have e6 : (w5.alloc (.cells #[.map mbS, .int .i64 n1, .int .i64 n2, .int .i64 n3, .int .i64 n4, .int .i64 n5] 30)).heap.size = w5.heap.size + 1 := by simp
  have hb6 : Below w5.heap.size w5 (w5.alloc (.cells #[.map mbS, .int .i64 n1, .int .i64 n2, .int .i64 n3, .int .i64 n4, .int .i64 n5] 30)) := (Below.refl _ _).alloc (Nat.le_refl _) _
  have hb7' : Below (w5.alloc (.cells #[.map mbS, .int .i64 n1, .int .i64 n2, .int .i64 n3, .int .i64 n4, .int .i64 n5] 30)).heap.size (w5.alloc (.cells #[.map mbS, .int .i64 n1, .int .i64 n2, .int .i64 n3, .int .i64 n4, .int .i64 n5] 30)) w7 := by rw [e6]; exact hb7
  have hb8 : Below w7.heap.size w7 (w7.alloc (.cells #[.map mbO, .int .i64 m1, .int .i64 m2, .int .i64 m3, .int .i64 m4, .int .i64 m5] 30)) := (Below.refl _ _).alloc (Nat.le_refl _) _
  have h75 : w5.heap.size + 1 ≤ w7.heap.size := by have := hb7.size; rw [e6] at this; exact this
  have h54 := hb5.size
  have h42 : w.heap.size + 2 ≤ w4.heap.size := by have := Below.size hi; simp at this; omega
  have lA := hA.lt
  have lB := hB.lt
  have rS := hmS.rng
  have rO := hmO.rng
  refine ⟨(((hi.below hb5).below hb6).below hb7').below hb8, (((hA.below hb5).below hb6).below hb7').below hb8, (((hB.below hb5).below hb6).below hb7').below hb8, hmO.opt.below hb8, ((hmS.opt.below hb6).below hb7').below hb8,
    ((SumAt.made w5 mbS n1 n2 n3 n4 n5).below hb7').below hb8, SumAt.made w7 mbO m1 m2 m3 m4 m5, ⟨by omega, fun g hg => by have := rS g hg; omega⟩, ⟨by omega, fun e => by have := rS _ e; omega⟩, ?_, ?_, ?_⟩
  · intro g hg; have h1 := lA g hg; exact ⟨by omega, fun e => by have := rS g e; omega⟩
  · intro g hg; have h1 := lB g hg; exact ⟨by omega, fun e => by have := rS g e; omega⟩
  · intro g hg; have h1 := rO g hg; exact ⟨by omega, fun e => by have := rS g e; omega⟩

theorem fin_of {w : World} {a : Option Addr} {cap : Nat} {es : List (ByteArray × Int)} {nb : Bool} {n1 n2 n3 n4 n5 : Int} {a' : Option Addr} {cap' : Nat} {es' : List (ByteArray × Int)} {nb' : Bool} {m1 m2 m3 m4 m5 : Int} {mbA mbB mbS mbO : Option Nat} {p p8 : Nat} {w8 w9 : World} (h : Pre w a cap es nb n1 n2 n3 n4 n5 a' cap' es' nb' m1 m2 m3 m4 m5 mbA mbB mbS mbO p p8 w8) {N : Nat} (hr : AddRes p mbS N n1 n2 n3 n4 n5 m1 m2 m3 m4 m5 (mapD es) (mapD es') w8 w9) :
    ∃ D, Fin w a cap es nb n1 n2 n3 n4 n5 a' cap' es' nb' m1 m2 m3 m4 m5 mbA mbB mbS mbO p p8 D N w9 ∧ Adds D (mapD es) (mapD es') (fun _ => false) := by
  obtain ⟨hs, ⟨D, hD, hAdd⟩, hb⟩ := hr
  refine ⟨D, ⟨?_, h.A.but hb h.neA, h.B.but hb h.neB, h.O.but hb h.neO, hD, hs, ?_⟩, hAdd⟩
  · have h42 : w.heap.size + 2 ≤ w8.heap.size := by have := Below.size h.i; simp at this; omega
    exact Below.but h.i hb h42 h.low.1 h.low.2
  · exact h.op.block (hb.block p8 (lt_of_cell h.op.c0) h.ne8.1 h.ne8.2)

/-- a key of the first entries -/
theorem has_of_mem {es : List (ByteArray × Int)} {i : Nat} {t : ByteArray} {m : Int} (he : es[i]? = some (t, m)) : has (mapD es) (keyLit t) = true :=
  (has_mapD es _).2 ⟨(t, m), List.mem_of_getElem? he, rfl⟩

end Go.Proofs.Qxb6601120a
