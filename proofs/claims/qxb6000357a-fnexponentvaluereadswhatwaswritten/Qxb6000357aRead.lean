import Derived.Test.Qxb6000357aStops
import Derived.Deep.DeepCutAuto
namespace Go.Proofs.Qxb6000357a
open Go.RowKit

/-- The slice e that the law builds: it owns the bytes l, with room for cap. -/
def Inv (w0 : World) (cap : Nat) (l : List Int) (wr : World) : Prop :=
  Below w0.heap.size w0 wr ∧ wr.ownsRow w0.heap.size 5 1 (.slice (some ⟨w0.heap.size, 0, none⟩) l.length cap) l.length (l.map (Value.int .u8))

/-- Every other block is as it was. -/
def Others (g : Nat) (wr w' : World) : Prop := wr.heap.size ≤ w'.heap.size ∧ ∀ k, k < wr.heap.size → k ≠ g → w'.heap[k]? = wr.heap[k]?

theorem Inv.lt {w0 wr : World} {cap : Nat} {l : List Int} (h : Inv w0 cap l wr) : w0.heap.size < wr.heap.size := lt_size h.2

theorem Inv.cell {w0 wr : World} {cap : Nat} {l : List Int} (h : Inv w0 cap l wr) (i : Nat) (hi : i < l.length) : wr.cell? ⟨w0.heap.size, i, none⟩ = some (.int .u8 (l.getD i 0)) := by
  rw [h.2.cellAt i (by omega)]
  simp [List.getD, hi]

theorem Inv.made {w0 w1 : World} {cap : Nat} (h : w1.ownsRow w0.heap.size 5 1 (.slice (some ⟨w0.heap.size, 0, none⟩) 0 cap) 0 []) (hg : w0.grownBy w1 none) : Inv w0 cap [] w1 :=
  ⟨(Below.refl _ _).grown hg (Nat.le_refl _) (fun _ h => by cases h), h⟩

/-- 'e = append(e, c)' within the capacity. -/
theorem wpList_push {P : Program} (w0 wr : World) {ops : Array Oper} {rest : List Oper} {o : Oper} {a : Act} {Q : Exit → Act → World → Prop} {o1 : Obj}
    (hg : o.guard = none) (s x : Operand) (hop : o.op = Op.call { callee := Callee.builtin Builtin.append, args := #[s, x], argTypes := #[30, 30] })
    (i : TypeInfo) (h1 : P.underlying 30 = some (.slice 5)) (h2 : P.info? 5 = some i) (h4 : i.size = 1)
    (cap k : Nat) (l : List Int) (c : Int) (hs : a.eval s = .slice (some ⟨w0.heap.size, 0, none⟩) k cap) (hk : k = l.length) (hx : a.eval x = .slice (some ⟨wr.heap.size, 0, none⟩) 1 1)
    (hinv : Inv w0 cap l wr) (hc : (wr.alloc o1).cell? ⟨wr.heap.size, 0, none⟩ = some (.int .u8 c)) (b1 : k + 1 ≤ cap)
    (hK : ∀ w', Hid (Inv w0 cap (l ++ [c]) w') → Hid (Others w0.heap.size wr w') → wpList P ops Q rest (a.put o.dst (.slice (some ⟨w0.heap.size, 0, none⟩) (k + 1) cap)) w') :
    wpList P ops Q (o :: rest) a (wr.alloc o1) := by
  subst hk
  refine wpList_append_fits _ hg s x 30 hop w0.heap.size 5 i 1 h1 h2 h4 w0.heap.size l.length cap _ hs (hinv.2.alloc _) ⟨wr.heap.size, 0, none⟩ 1 1 [.int .u8 c] hx rfl ?_ ?_ b1 ?_
  · intro j u hj
    match j, hj with
    | 0, hj => simp at hj; subst hj; simpa [Addr.add] using hc
  · intro u hu; simp at hu; subst hu; rfl
  · intro w' hown hgrow
    refine hK w' ⟨(hinv.1.alloc (Nat.le_of_lt hinv.lt) o1).grown hgrow (by have := hinv.lt; simp; omega) (fun k hk => by cases hk; exact Nat.le_refl _), ?_⟩ ⟨?_, ?_⟩
    · simpa using hown
    · have := hgrow.size; simp at this; omega
    · intro k hk hne
      rw [hgrow.block k (by simp; omega) (by simpa using hne), Below.heap_alloc _ _ _ hk]

/-! ### the digits' array -/
def Dg (w0 : World) (d : Nat) (D : Nat → Int) (wr : World) : Prop :=
  w0.heap.size < d ∧ d < wr.heap.size ∧ (∀ j, j < 20 → wr.cell? ⟨d, j, none⟩ = some (.int .u8 (D j))) ∧ ∀ j, wr.frozen? ⟨d, j, none⟩ = false

theorem Inv.alloc {w0 wr : World} {cap : Nat} {l : List Int} (h : Inv w0 cap l wr) (o : Obj) : Inv w0 cap l (wr.alloc o) :=
  ⟨h.1.alloc (Nat.le_of_lt h.lt) o, h.2.alloc o⟩

theorem Inv.store {w0 wr : World} {cap : Nat} {l : List Int} (h : Inv w0 cap l wr) {d : Nat} (hd : w0.heap.size < d) (j : Nat) (u : Value) : Inv w0 cap l (wr.setCell ⟨d, j, none⟩ u) :=
  ⟨h.1.setCell (p := ⟨d, j, none⟩) (Nat.le_of_lt hd) u, ownsRow_setCell_other h.2 (by simp [Value.ownBlock]; omega) u⟩

theorem Dg.store {w0 wr : World} {d : Nat} {D : Nat → Int} (h : Dg w0 d D wr) (j : Nat) (hj : j < 20) (c : Int) : Dg w0 d (fun i => if i = j then c else D i) (wr.setCell ⟨d, j, none⟩ (.int .u8 c)) := by
  obtain ⟨h1, h2, h3, h4⟩ := h
  refine ⟨h1, by simpa using h2, fun i hi => ?_, fun i => by rw [World.frozen?_setCell]; exact h4 i⟩
  show _ = some (Value.int .u8 (if i = j then c else D i))
  by_cases e : i = j
  · subst e; rw [if_pos rfl]; exact World.cell?_setCell_same _ _ _ (h3 i hi)
  · have hne : (⟨d, j, none⟩ : Addr) ≠ ⟨d, i, none⟩ := fun h => e (by simpa using h.symm)
    rw [if_neg e, World.cell?_setCell_other _ _ _ _ hne]; exact h3 i hi

theorem Dg.others {w0 wr w' : World} {d : Nat} {D : Nat → Int} (h : Dg w0 d D wr) (ho : Others w0.heap.size wr w') : Dg w0 d D w' := by
  obtain ⟨h1, h2, h3, h4⟩ := h
  have hb := ho.2 d h2 (by omega)
  exact ⟨h1, Nat.lt_of_lt_of_le h2 ho.1, fun j hj => by rw [World.cell?_of_block (w := wr) hb]; exact h3 j hj, fun j => by rw [World.frozen?_of_block (w := wr) hb]; exact h4 j⟩

theorem Dg.start {w0 wr : World} {cap : Nat} {l : List Int} (h : Inv w0 cap l wr) : Dg w0 wr.heap.size (fun _ => 0) (wr.alloc (.cells #[.int .u8 0, .int .u8 0, .int .u8 0, .int .u8 0, .int .u8 0, .int .u8 0, .int .u8 0, .int .u8 0, .int .u8 0, .int .u8 0, .int .u8 0, .int .u8 0, .int .u8 0, .int .u8 0, .int .u8 0, .int .u8 0, .int .u8 0, .int .u8 0, .int .u8 0, .int .u8 0] 31)) := by
  have hh := heap_alloc_new wr (.cells #[.int .u8 0, .int .u8 0, .int .u8 0, .int .u8 0, .int .u8 0, .int .u8 0, .int .u8 0, .int .u8 0, .int .u8 0, .int .u8 0, .int .u8 0, .int .u8 0, .int .u8 0, .int .u8 0, .int .u8 0, .int .u8 0, .int .u8 0, .int .u8 0, .int .u8 0, .int .u8 0] 31)
  refine ⟨h.lt, by simp, fun j hj => ?_, fun j => ?_⟩
  · have e : #[Value.int .u8 0, .int .u8 0, .int .u8 0, .int .u8 0, .int .u8 0, .int .u8 0, .int .u8 0, .int .u8 0, .int .u8 0, .int .u8 0, .int .u8 0, .int .u8 0, .int .u8 0, .int .u8 0, .int .u8 0, .int .u8 0, .int .u8 0, .int .u8 0, .int .u8 0, .int .u8 0] = Array.replicate 20 (Value.int .u8 0) := rfl
    simp only [World.cell?, hh]
    rw [e, Array.getElem?_replicate, if_pos hj]
    rfl
  · simp only [World.frozen?, hh]
    simp

/-! ### quotients by ten -/
def vq (v : Int) : Nat → Int
  | 0 => v
  | r + 1 => vq v r / 10
theorem vq_succ (v : Int) (r : Nat) : vq v (r + 1) = vq v r / 10 := rfl
theorem vq_nonneg (v : Int) (h : 0 ≤ v) (r : Nat) : 0 ≤ vq v r := by
  induction r with
  | zero => exact h
  | succ r ih => rw [vq_succ]; omega
theorem vq_le (v : Int) (h : 0 ≤ v) (r : Nat) : vq v r ≤ v := by
  induction r with
  | zero => exact Int.le_refl _
  | succ r ih => rw [vq_succ]; have := vq_nonneg v h r; omega
theorem vq_twenty (v : Int) (h0 : 0 ≤ v) (hv : v ≤ 18446744073709551615) : vq v 20 = 0 := by
  have h0' : vq v 0 < 18446744073709551616 := by show v < _; omega
  have h1 : vq v 1 < 1844674407370955162 := by have := vq_succ v 0; simp only [Nat.reduceAdd] at this; omega
  have h2 : vq v 2 < 184467440737095517 := by have := vq_succ v 1; simp only [Nat.reduceAdd] at this; omega
  have h3 : vq v 3 < 18446744073709552 := by have := vq_succ v 2; simp only [Nat.reduceAdd] at this; omega
  have h4 : vq v 4 < 1844674407370956 := by have := vq_succ v 3; simp only [Nat.reduceAdd] at this; omega
  have h5 : vq v 5 < 184467440737096 := by have := vq_succ v 4; simp only [Nat.reduceAdd] at this; omega
  have h6 : vq v 6 < 18446744073710 := by have := vq_succ v 5; simp only [Nat.reduceAdd] at this; omega
  have h7 : vq v 7 < 1844674407371 := by have := vq_succ v 6; simp only [Nat.reduceAdd] at this; omega
  have h8 : vq v 8 < 184467440738 := by have := vq_succ v 7; simp only [Nat.reduceAdd] at this; omega
  have h9 : vq v 9 < 18446744074 := by have := vq_succ v 8; simp only [Nat.reduceAdd] at this; omega
  have h10 : vq v 10 < 1844674408 := by have := vq_succ v 9; simp only [Nat.reduceAdd] at this; omega
  have h11 : vq v 11 < 184467441 := by have := vq_succ v 10; simp only [Nat.reduceAdd] at this; omega
  have h12 : vq v 12 < 18446745 := by have := vq_succ v 11; simp only [Nat.reduceAdd] at this; omega
  have h13 : vq v 13 < 1844675 := by have := vq_succ v 12; simp only [Nat.reduceAdd] at this; omega
  have h14 : vq v 14 < 184468 := by have := vq_succ v 13; simp only [Nat.reduceAdd] at this; omega
  have h15 : vq v 15 < 18447 := by have := vq_succ v 14; simp only [Nat.reduceAdd] at this; omega
  have h16 : vq v 16 < 1845 := by have := vq_succ v 15; simp only [Nat.reduceAdd] at this; omega
  have h17 : vq v 17 < 185 := by have := vq_succ v 16; simp only [Nat.reduceAdd] at this; omega
  have h18 : vq v 18 < 19 := by have := vq_succ v 17; simp only [Nat.reduceAdd] at this; omega
  have h19 : vq v 19 < 2 := by have := vq_succ v 18; simp only [Nat.reduceAdd] at this; omega
  have h20 : vq v 20 < 1 := by have := vq_succ v 19; simp only [Nat.reduceAdd] at this; omega
  have := vq_nonneg v h0 20
  omega

/-- the digits D q, D (q+1), .. -/
def dl (D : Nat → Int) (q : Nat) : Nat → List Int
  | 0 => []
  | m + 1 => dl D q m ++ [D (q + m)]
theorem dl_length (D : Nat → Int) (q m : Nat) : (dl D q m).length = m := by
  induction m with
  | zero => rfl
  | succ m ih => simp [dl, ih]

end Go.Proofs.Qxb6000357a
