import Derived.Test.Qxb6601120aSumC
import Derived.Maps.RangeWalk
import Derived.Maps.Ext
namespace Go.Proofs.Qxb6601120a
open Go.RowKit
open Go.Maps (Keyed has size)
open Go.WideMaps
set_option linter.unusedVariables false

/-! ### what is read in a map of counts -/
def valAt (D : DataW Unit) (k : Lit) : Int := match D.atKey k (num 0) with | .lit (.int .i64 n) => n | _ => 0
theorem valAt_of {D : DataW Unit} {k : Lit} {c : Int} (h : D.atKey k (num 0) = num c) : valAt D k = c := by unfold valAt; rw [h]; rfl
theorem valAt_nil (k : Lit) : valAt (.map []) k = 0 := valAt_of rfl
theorem has_nil (k : Lit) : has (.map [] : DataW Unit) k = false := rfl
theorem zero3 (w : World) : (zeroValue 3).run Try.prog w = .ok (.int .i64 0) w := by kernel_rfl
theorem key_of {t : ByteArray} (ht : t.size ≤ maxLen) : keyOf Try.prog 34 (.string t) = some (keyLit t) := keyOf_string_mk Try.underlying34 ht
theorem key_inv {key : Value} {kl : Lit} (h : keyOf Try.prog 34 key = some kl) : ∃ s, key = .string s ∧ kl = keyLit s ∧ s.size ≤ maxLen := by
  cases key <;> simp [keyOf, Try.underlying34, mapKey] at h
  exact ⟨_, rfl, h.2.symm, h.1⟩

theorem Cnts.look {g n : Nat} {D : DataW Unit} {w : World} (h : Cnts g n D w) {t : ByteArray} (ht : t.size ≤ maxLen) :
    (Instr.lookup 27 (.map (some g)) (.string t) false).run Try.prog w = .ok (.int .i64 (valAt D (keyLit t))) w ∧ (Lit.int .i64 (valAt D (keyLit t))).wf = true := by
  obtain ⟨c, h1, h2, h3⟩ := World.ownsMap.lookup_int h law34 Try.underlying27 Try.underlying3 (zero3 w) (key_of ht)
  rw [valAt_of h2]
  exact ⟨h1, h3⟩
theorem Cnts.lookok {g n : Nat} {D : DataW Unit} {w : World} (h : Cnts g n D w) {t : ByteArray} (ht : t.size ≤ maxLen) :
    (Instr.lookup 27 (.map (some g)) (.string t) true).run Try.prog w = .ok (.tuple #[.int .i64 (valAt D (keyLit t)), .bool (has D (keyLit t))]) w := by
  obtain ⟨v, ps, h1, h2⟩ := World.ownsMap.look_ok h law34 Try.underlying27 (zero3 w) (zd := num 0) (plainElem_int Try.underlying3 (by decide)) (key_of ht)
  obtain ⟨c, rfl, hc, _⟩ := plainElem_int_inv Try.underlying3 h2
  rw [valAt_of (c := c) (congrArg Prod.fst hc)]
  exact h1

/-- nil and empty, or a map that reads as D -/
def Opt (mb : Option Nat) (n : Nat) (D : DataW Unit) (w : World) : Prop := (mb = none ∧ D = .map []) ∨ ∃ g, mb = some g ∧ Cnts g n D w
theorem Opt.look {mb : Option Nat} {n : Nat} {D : DataW Unit} {w : World} (h : Opt mb n D w) {t : ByteArray} (ht : t.size ≤ maxLen) :
    (Instr.lookup 27 (.map mb) (.string t) false).run Try.prog w = .ok (.int .i64 (valAt D (keyLit t))) w := by
  rcases h with ⟨rfl, rfl⟩ | ⟨g, rfl, h⟩
  · have := Maps.look_nil (P := Try.prog) (w := w) false law34 Try.underlying27 (zero3 w) (key_of ht)
    rw [valAt_nil]
    simpa using this
  · exact (h.look ht).1
theorem Opt.lookok {mb : Option Nat} {n : Nat} {D : DataW Unit} {w : World} (h : Opt mb n D w) {t : ByteArray} (ht : t.size ≤ maxLen) :
    (Instr.lookup 27 (.map mb) (.string t) true).run Try.prog w = .ok (.tuple #[.int .i64 (valAt D (keyLit t)), .bool (has D (keyLit t))]) w := by
  rcases h with ⟨rfl, rfl⟩ | ⟨g, rfl, h⟩
  · have := Maps.look_nil (P := Try.prog) (w := w) true law34 Try.underlying27 (zero3 w) (key_of ht)
    rw [valAt_nil, has_nil]
    simpa using this
  · exact h.lookok ht
theorem Opt.len {mb : Option Nat} {n : Nat} {D : DataW Unit} {w : World} (h : Opt mb n D w) (ty : TypeId) : (Builtin.len_ #[27] ty #[.map mb]).run Try.prog w = .ok (.int .i64 (size D)) w := by
  rcases h with ⟨rfl, rfl⟩ | ⟨g, rfl, h⟩
  · exact Maps.len_nil Try.underlying27 ty
  · exact World.ownsMap.len h Try.underlying27 ty
theorem Opt.block {mb : Option Nat} {n : Nat} {D : DataW Unit} {w w' : World} (h : Opt mb n D w) (hb : ∀ g, mb = some g → w'.heap[g]? = w.heap[g]?) : Opt mb n D w' := by
  rcases h with h | ⟨g, h1, E, c, hg, r⟩
  · exact .inl h
  · exact .inr ⟨g, h1, E, c, by rw [hb g h1]; exact hg, r⟩
theorem Opt.wf {mb : Option Nat} {n : Nat} {D : DataW Unit} {w : World} (h : Opt mb n D w) {t : ByteArray} (ht : t.size ≤ maxLen) : (Lit.int .i64 (valAt D (keyLit t))).wf = true := by
  rcases h with ⟨rfl, rfl⟩ | ⟨g, rfl, h⟩
  · rw [valAt_nil]; decide
  · exact (h.look ht).2

/-! ### the sum of two maps, an order that nobody knows -/
def adds (a b : Int) : Int := wrap64 (a + b)
/-- D: D1, with those counts of D2 added that are no longer to come -/
def Adds (D D1 D2 : DataW Unit) (left : Lit → Bool) : Prop :=
  ∀ k, has D k = (has D1 k || (has D2 k && !left k)) ∧ valAt D k = if (has D2 k && !left k) = true then adds (valAt D1 k) (valAt D2 k) else valAt D1 k
theorem Adds.start (D1 D2 : DataW Unit) : Adds D1 D1 D2 (has D2) := by
  intro k
  cases h : has D2 k <;> simp
theorem Adds.step {D D1 D2 : DataW Unit} {left : Lit → Bool} {t : ByteArray} {c : Int} (h : Adds D D1 D2 left) (hm : Maps.IsMap D) (hl : left (keyLit t) = true) (hat : ∀ zd, D2.atKey (keyLit t) zd = num c) :
    Adds (D.put (keyLit t) (num (adds (valAt D (keyLit t)) c))) D1 D2 (fun z => left z && !z.sameKey (keyLit t)) := by
  have hk := isKey_lit t
  have h2 : has D2 (keyLit t) = true := Maps.has_true_of_atKey hat
  intro k
  by_cases hkk : k = keyLit t
  · subst hkk
    have e1 : valAt D (keyLit t) = valAt D1 (keyLit t) := by have := (h (keyLit t)).2; rw [hl] at this; simpa using this
    have e2 : valAt D2 (keyLit t) = c := valAt_of (hat _)
    have e3 : (keyLit t).sameKey (keyLit t) = true := WideAt.sameKey_self hk
    refine ⟨?_, ?_⟩
    · rw [Maps.has_put_same hm hk, h2]; simp [e3]
    · rw [valAt_of (Maps.atKey_put_same hm hk _ _), h2, e1, e2]; simp [e3]
  · have e3 : k.sameKey (keyLit t) = false := Maps.sameKey_ne hkk
    have e4 : valAt (D.put (keyLit t) (num (adds (valAt D (keyLit t)) c))) k = valAt D k := by unfold valAt; rw [Maps.atKey_put_other hkk]
    rw [Maps.has_put_other hkk, e4]
    simpa [e3] using h k

end Go.Proofs.Qxb6601120a
