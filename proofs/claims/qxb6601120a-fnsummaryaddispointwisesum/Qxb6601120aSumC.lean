import Derived.Test.Qxb6601120aSumB
import Derived.Deep.RegionHeld3
import Derived.Deep.DeepCutAuto
import Derived.Deep.CutBlock
namespace Go.Proofs.Qxb6601120a
open Go.RowKit
set_option linter.unusedVariables false

theorem kept2 {w w2 : World} {x0 x1 x2 x3 x4 x5 x6 y0 y1 y2 y3 y4 y5 : Value} (hb : Below (((w.alloc (.cells #[x0, x1, x2, x3, x4, x5, x6] 24)).alloc (.cells #[y0, y1, y2, y3, y4, y5] 30)).drew).heap.size ((w.alloc (.cells #[x0, x1, x2, x3, x4, x5, x6] 24)).alloc (.cells #[y0, y1, y2, y3, y4, y5] 30)).drew w2) :
    w2.cell? ⟨w.heap.size, 0, none⟩ = some x0 ∧ w2.cell? ⟨w.heap.size, 1, none⟩ = some x1 ∧ w2.cell? ⟨w.heap.size, 2, none⟩ = some x2 ∧ w2.cell? ⟨w.heap.size, 3, none⟩ = some x3 ∧ w2.cell? ⟨w.heap.size, 4, none⟩ = some x4 ∧ w2.cell? ⟨w.heap.size, 5, none⟩ = some x5 ∧ w2.cell? ⟨w.heap.size, 6, none⟩ = some x6 ∧ w2.cell? ⟨w.heap.size + 1, 0, none⟩ = some y0 ∧ w2.cell? ⟨w.heap.size + 1, 1, none⟩ = some y1 ∧ w2.cell? ⟨w.heap.size + 1, 2, none⟩ = some y2 ∧ w2.cell? ⟨w.heap.size + 1, 3, none⟩ = some y3 ∧ w2.cell? ⟨w.heap.size + 1, 4, none⟩ = some y4 ∧ w2.cell? ⟨w.heap.size + 1, 5, none⟩ = some y5 ∧ w2.frozen? ⟨w.heap.size + 1, 0, none⟩ = false ∧ w2.frozen? ⟨w.heap.size + 1, 1, none⟩ = false ∧ w2.frozen? ⟨w.heap.size + 1, 2, none⟩ = false ∧ w2.frozen? ⟨w.heap.size + 1, 3, none⟩ = false ∧ w2.frozen? ⟨w.heap.size + 1, 4, none⟩ = false ∧ w2.frozen? ⟨w.heap.size + 1, 5, none⟩ = false :=
  ⟨by rw [hb.cell (by simp; omega)]; simp, by rw [hb.cell (by simp; omega)]; simp, by rw [hb.cell (by simp; omega)]; simp, by rw [hb.cell (by simp; omega)]; simp, by rw [hb.cell (by simp; omega)]; simp, by rw [hb.cell (by simp; omega)]; simp, by rw [hb.cell (by simp; omega)]; simp, by rw [hb.cell (by simp)]; simp, by rw [hb.cell (by simp)]; simp, by rw [hb.cell (by simp)]; simp, by rw [hb.cell (by simp)]; simp, by rw [hb.cell (by simp)]; simp, by rw [hb.cell (by simp)]; simp, by rw [hb.frozen (by simp)]; simp, by rw [hb.frozen (by simp)]; simp, by rw [hb.frozen (by simp)]; simp, by rw [hb.frozen (by simp)]; simp, by rw [hb.frozen (by simp)]; simp, by rw [hb.frozen (by simp)]; simp⟩

theorem Made.below {B B' : Nat} {nb : Bool} {es : List (ByteArray × Int)} {mb : Option Nat} {w w' : World} (h : Made B nb es mb w) (hb : Below B' w w') (hB : w.heap.size ≤ B') : Made B nb es mb w' := by
  rcases h with h | ⟨g, h1, h2, h3, h4⟩
  · exact .inl h
  · refine .inr ⟨g, h1, h2, ?_, h4⟩
    obtain ⟨E, c, hg, r⟩ := h3
    have hlt := (Array.getElem?_eq_some_iff.1 hg).1
    exact ⟨E, c, by rw [hb.block g (by omega)]; exact hg, r⟩

theorem Made.setCell {B : Nat} {nb : Bool} {es : List (ByteArray × Int)} {mb : Option Nat} {w : World} (h : Made B nb es mb w) {p : Addr} (hp : p.block < B) (u : Value) : Made B nb es mb (w.setCell p u) := by
  rcases h with h | ⟨g, h1, h2, h3, h4⟩
  · exact .inl h
  · exact .inr ⟨g, h1, h2, World.ownsMap.setCell h3 (by omega) u, h4⟩
theorem Made.mono {B B' : Nat} {nb : Bool} {es : List (ByteArray × Int)} {mb : Option Nat} {w : World} (h : Made B nb es mb w) (hB : B' ≤ B) : Made B' nb es mb w := by
  rcases h with h | ⟨g, h1, h2, h3, h4⟩
  · exact .inl h
  · exact .inr ⟨g, h1, by omega, h3, h4⟩

set_option maxHeartbeats 1000000 in
theorem summaryOf_any (a : Option Addr) (cap : Nat) (es : List (ByteArray × Int)) (nb : Bool) (n1 n2 n3 n4 n5 : Int) (w : World) (hs : Small es) (hw : WfAll es) (h : EntsAt w a es) :
    Calls Try.prog 9 #[.agg #[.slice a es.length cap, .bool nb, .int .i64 n1, .int .i64 n2, .int .i64 n3, .int .i64 n4, .int .i64 n5]] w
      fun e w' => ∃ mb, e = .returned (.agg #[.map mb, .int .i64 n1, .int .i64 n2, .int .i64 n3, .int .i64 n4, .int .i64 n5]) ∧ Made w.heap.size nb es mb w' ∧ Below w.heap.size w w' := by
  have HP : ∀ o o', Hid (EntsAt ((w.alloc o).alloc o').drew a es) := fun o o' => ((h.alloc o).alloc o').below (Below.refl _ _).drew
  have HS : Hid (Small es) := hs
  have HW : Hid (WfAll es) := hw
  have HB : ∀ o o', Hid (Below w.heap.size w ((w.alloc o).alloc o').drew) := fun o o' => (((Below.refl _ _).alloc (Nat.le_refl _) o).alloc (by simp) o').drew
  clear h hs hw
  go_enter Try.func9, Try.ntmps9
  go_wp2
  go_region_held3 (fun w' => w'.cell? ⟨w.heap.size, 0, none⟩ = some (.slice a es.length cap) ∧ w'.cell? ⟨w.heap.size, 1, none⟩ = some (.bool nb) ∧ w'.cell? ⟨w.heap.size, 2, none⟩ = some (.int .i64 n1) ∧ w'.cell? ⟨w.heap.size, 3, none⟩ = some (.int .i64 n2) ∧ w'.cell? ⟨w.heap.size, 4, none⟩ = some (.int .i64 n3) ∧ w'.cell? ⟨w.heap.size, 5, none⟩ = some (.int .i64 n4) ∧ w'.cell? ⟨w.heap.size, 6, none⟩ = some (.int .i64 n5)) (go_keep)
    (first | (go_at_call 8; refine (outcomes a cap es nb n1 n2 n3 n4 n5 _ HS.out HW.out (HP _ _).out).mono ?_; rintro e w2 ⟨mb, rfl, hm, hb⟩; have HM : Hid (Made _ nb es mb w2) := hm; have HB2 : Hid (Below w.heap.size w w2) := (HB _ _).out.trans (hb.mono (by simp; omega)); obtain ⟨q0, q1, q2, q3, q4, q5, q6, q7, q8, q9, q10, q11, q12, q13, q14, q15, q16, q17, q18⟩ := kept2 hb; clear hb hm))
  go_wp2
  have hlt : w.heap.size + 1 < ((w.alloc (.cells #[.slice a es.length cap, .bool nb, .int .i64 n1, .int .i64 n2, .int .i64 n3, .int .i64 n4, .int .i64 n5] 24)).alloc (.cells #[.map none, .int .i64 0, .int .i64 0, .int .i64 0, .int .i64 0, .int .i64 0] 30)).drew.heap.size := by simp
  have hle : w.heap.size ≤ w.heap.size + 1 := by omega
  refine bodyPost_ret (v := .agg #[.map mb, .int .i64 n1, .int .i64 n2, .int .i64 n3, .int .i64 n4, .int .i64 n5]) ?_ rfl ⟨mb, rfl, ?_, ?_⟩
  · simp [results, Try.results9, go_sem, q7, q8, q9, q10, q11, q12]
  · exact ((((((HM.out.setCell hlt _).setCell hlt _).setCell hlt _).setCell hlt _).setCell hlt _).setCell hlt _).mono (by simp; omega)
  · exact (((((HB2.out.setCell hle _).setCell hle _).setCell hle _).setCell hle _).setCell hle _).setCell hle _

end Go.Proofs.Qxb6601120a
