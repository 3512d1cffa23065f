import Derived.Test.Qxb6601111aRows
import Derived.WalkKit
import Derived.WalkLawsBesides
import Derived.WalkSpells
import Derived.Laws.BytesArg
namespace Go.Proofs.Qxb6601111a
open Go.RowKit

theorem Try.info5 : (Try.prog.info? 5).map (fun i => (i.zero, i.size, i.bytes)) = some (some (.int .u8 0), 1, 1) := by kernel_rfl

/-- A slice of bytes that the call made: it owns the bytes l, with room for cap. -/
def Row (B g cap : Nat) (l : List Int) (wr : World) : Prop :=
  wr.ownsRow B 5 1 (.slice (some ⟨g, 0, none⟩) l.length cap) l.length (l.map (Value.int .u8))

/-- Every block but g is as it was. -/
def Others (g : Nat) (wr w' : World) : Prop := wr.heap.size ≤ w'.heap.size ∧ ∀ k, k < wr.heap.size → k ≠ g → w'.heap[k]? = wr.heap[k]?

theorem owns_size {w : World} {B e size g n cap : Nat} {xs : List Value} (h : w.ownsRow B e size (.slice (some ⟨g, 0, none⟩) n cap) n xs) : B ≤ g ∧ g < w.heap.size := by
  rcases h.2 with ⟨h', _⟩ | ⟨g', cap', cur, h', hb, hg, _⟩
  · simp at h'
  · simp only [Value.slice.injEq, Option.some.injEq, Addr.mk.injEq, and_true, true_and] at h'
    obtain ⟨rfl, rfl⟩ := h'
    exact ⟨hb, (Array.getElem?_eq_some_iff.1 hg).1⟩
theorem Row.lt {B g cap : Nat} {l : List Int} {wr : World} (h : Row B g cap l wr) : g < wr.heap.size := (owns_size h).2
theorem Row.le {B g cap : Nat} {l : List Int} {wr : World} (h : Row B g cap l wr) : B ≤ g := (owns_size h).1

theorem owns_block {w w' : World} {B e size g n cap : Nat} {xs : List Value} (h : w.ownsRow B e size (.slice (some ⟨g, 0, none⟩) n cap) n xs) (hb : w'.heap[g]? = w.heap[g]?) :
    w'.ownsRow B e size (.slice (some ⟨g, 0, none⟩) n cap) n xs := by
  refine ⟨h.1, ?_⟩
  rcases h.2 with ⟨h', _⟩ | ⟨g', cap', cur, h', hbb, hg, r⟩
  · simp at h'
  · have e := h'
    simp only [Value.slice.injEq, Option.some.injEq, Addr.mk.injEq, and_true, true_and] at e
    obtain ⟨rfl, rfl⟩ := e
    exact .inr ⟨g, cap, cur, h', hbb, by rw [hb]; exact hg, r⟩

theorem Row.others {B g cap g' : Nat} {l : List Int} {wr w' : World} (h : Row B g cap l wr) (ho : Others g' wr w') (hne : g ≠ g') : Row B g cap l w' :=
  owns_block h (ho.2 g h.lt hne)

theorem Row.cell {B g cap : Nat} {l : List Int} {wr : World} (h : Row B g cap l wr) (i : Nat) (hi : i < l.length) : wr.cell? ⟨g, i, none⟩ = some (.int .u8 (l.getD i 0)) := by
  have := h.cellAt i (by omega)
  rw [this]
  simp [List.getD, hi]

theorem Row.made {w1 w2 : World} {B cap : Nat} (h : w2.ownsRow B 5 1 (.slice (some ⟨w1.heap.size, 0, none⟩) 0 cap) 0 []) : Row B w1.heap.size cap [] w2 := h
theorem Others.made {w1 w2 : World} {g : Nat} (hg : w1.grownBy w2 none) : Others g w1 w2 := ⟨hg.size, fun k hk _ => hg.block k hk (by simp)⟩
theorem Below.made {B : Nat} {w w1 w2 : World} (h : Below B w w1) (hg : w1.grownBy w2 none) (hB : B ≤ w1.heap.size) : Below B w w2 := h.grown hg hB (fun _ e => by cases e)

/-- 'x = append(x, c)' within the capacity. -/
theorem wpList_push {P : Program} (w0 wr : World) (B : Nat) {ops : Array Oper} {rest : List Oper} {o : Oper} {a : Act} {Q : Exit → Act → World → Prop} {o1 : Obj}
    (hg : o.guard = none) (s x : Operand) (t : TypeId) (hop : o.op = Op.call { callee := Callee.builtin Builtin.append, args := #[s, x], argTypes := #[t, t] })
    (i : TypeInfo) (h1 : P.underlying t = some (.slice 5)) (h2 : P.info? 5 = some i) (h4 : i.size = 1)
    (g cap k : Nat) (l : List Int) (c : Int) (hs : a.eval s = .slice (some ⟨g, 0, none⟩) k cap) (hk : k = l.length) (hx : a.eval x = .slice (some ⟨wr.heap.size, 0, none⟩) 1 1)
    (hrow : Row B g cap l wr) (hbel : Below B w0 wr) (hc : (wr.alloc o1).cell? ⟨wr.heap.size, 0, none⟩ = some (.int .u8 c)) (b1 : k + 1 ≤ cap)
    (hK : ∀ w', Hid (Row B g cap (l ++ [c]) w') → Hid (Below B w0 w') → Hid (Others g wr w') → wpList P ops Q rest (a.put o.dst (.slice (some ⟨g, 0, none⟩) (k + 1) cap)) w') :
    wpList P ops Q (o :: rest) a (wr.alloc o1) := by
  subst hk
  have hlt := hrow.lt
  have hle := hrow.le
  refine wpList_append_fits _ hg s x t hop B 5 i 1 h1 h2 h4 g l.length cap _ hs (World.ownsRow.alloc (h := hrow) _) ⟨wr.heap.size, 0, none⟩ 1 1 [.int .u8 c] hx rfl ?_ ?_ b1 ?_
  · intro j u hj
    match j, hj with
    | 0, hj => simp at hj; subst hj; simpa [Addr.add] using hc
  · intro u hu; simp at hu; subst hu; rfl
  · intro w' hown hgrow
    refine hK w' ?_ ((hbel.alloc (by omega) o1).grown hgrow (by simp; omega) (fun k hk => by cases hk; exact hle)) ⟨?_, ?_⟩
    · simpa [Row, Hid] using hown
    · have := hgrow.size; simp at this; omega
    · intro k hk hne
      rw [hgrow.block k (by simp; omega) (by simpa using hne), Below.heap_alloc _ _ _ hk]

/-- the bytes of a string, as numbers -/
def bytesOf (s : ByteArray) : List Int := s.data.toList.map fun b => (b.toNat : Int)
theorem bytesOf_length (s : ByteArray) : (bytesOf s).length = s.size := by simp [bytesOf]
theorem bytesOf_drop (s : ByteArray) (k : Nat) (h : k < s.size) : (bytesOf s).drop k = ((s[k]'h).toNat : Int) :: (bytesOf s).drop (k + 1) := by
  rw [List.drop_eq_getElem_cons (by simpa [bytesOf] using h)]
  congr 1
  simp [bytesOf]
  rfl
theorem bytesOf_end (s : ByteArray) (k : Nat) (h : ¬ k < s.size) : (bytesOf s).drop k = [] := List.drop_eq_nil_of_le (by rw [bytesOf_length]; omega)
theorem byte_bd (b : UInt8) : 0 ≤ (b.toNat : Int) ∧ (b.toNat : Int) ≤ 255 := by have := b.toNat_lt; omega

end Go.Proofs.Qxb6601111a
