import Derived.Test.Qxb6601111aAltD
import Derived.Maps.OwnSet
import Derived.Maps.OwnOps
namespace Go.Proofs.Qxb6601111a
open Go.RowKit
open Go.Maps (Keyed string_keyed)
open Go.WideMaps
set_option linter.unusedVariables false

/-! ### the set 'seen' -/
def keyLit (s : ByteArray) : Lit := .string s.data.toList
theorem sameKey_lit (t s : ByteArray) : (keyLit t).sameKey (keyLit s) = (t.toList == s.toList) := by
  rw [ByteArray.toList_eq, ByteArray.toList_eq]; rfl
theorem isKey_lit (s : ByteArray) : WideAt.IsKeyLit (keyLit s) := by simp [keyLit, WideAt.IsKeyLit]

def seenD (D : List ByteArray) : DataW Unit := Maps.setOf (.lit (.bool true)) (D.map keyLit)
theorem isMap_setOf (u : DataW Unit) (acc : List Lit) : Maps.IsMap (Maps.setOf u acc) := by
  have aux : ∀ (acc : List Lit) (m : DataW Unit), Maps.IsMap m → Maps.IsMap (acc.foldl (fun m x => m.put x u) m) := by
    intro acc
    induction acc with
    | nil => intro m h; exact h
    | cons x r ih => intro m h; exact ih _ (h.put x u)
  exact aux acc _ Maps.isMap_empty
theorem atKey_seen (D : List ByteArray) (s : ByteArray) : (seenD D).atKey (keyLit s) (.lit (.bool false)) = .lit (.bool (hasL D s)) := by
  have aux : ∀ (L : List ByteArray), (seenD L.reverse).atKey (keyLit s) (.lit (.bool false)) = .lit (.bool (hasL L.reverse s)) := by
    intro L
    induction L with
    | nil => rfl
    | cons t r ih =>
      rw [List.reverse_cons]
      have e1 : seenD (r.reverse ++ [t]) = (seenD r.reverse).put (keyLit t) (.lit (.bool true)) := by
        simp only [seenD, List.map_append, List.map_cons, List.map_nil]
        exact Maps.setOf_snoc _ _ _
      have e2 : hasL (r.reverse ++ [t]) s = (hasL r.reverse s || (t.toList == s.toList)) := by
        unfold hasL
        rw [List.any_append]
        simp only [List.any_cons, List.any_nil, Bool.or_false]
      rw [e1, e2]
      by_cases hk : keyLit t = keyLit s
      · have e3 : (t.toList == s.toList) = true := by rw [← sameKey_lit, hk]; exact WideAt.sameKey_self (isKey_lit s)
        have hm : Maps.IsMap (seenD r.reverse) := isMap_setOf _ _
        rw [← hk, Maps.atKey_put_same hm (isKey_lit t), e3]
        simp
      · have e3 : (t.toList == s.toList) = false := by rw [← sameKey_lit]; exact Maps.sameKey_ne hk
        rw [Maps.atKey_put_other (fun e => hk e.symm), ih, e3]
        simp
  have := aux D.reverse
  rwa [List.reverse_reverse] at this

def SetAt (B n : Nat) (D : List ByteArray) (wr : World) : Prop := wr.ownsMap Try.prog 9 (plainElem Try.prog 4) B n (seenD D)
theorem law9 : Keyed Try.prog 9 := string_keyed Try.underlying9
theorem zero4 (w : World) : (zeroValue 4).run Try.prog w = .ok (.bool false) w := by kernel_rfl
theorem plainElem_bool_inv {v : Value} {z : DataW Unit × List MemPlace} (h : plainElem Try.prog 4 v = some z) : ∃ x, v = .bool x ∧ z = (.lit (.bool x), []) := by
  unfold plainElem at h
  rw [Try.underlying4] at h
  cases v <;> simp at h
  exact ⟨_, rfl, h.symm⟩

/-- 'seen[s]' -/
theorem wpList_seen (w : World) {ops : Array Oper} {rest : List Oper} {o : Oper} {a : Act} {Q : Exit → Act → World → Prop}
    (hg : o.guard = none) (m x : Operand) (hop : o.op = Op.lookup 48 m x false) (b n : Nat) (D : List ByteArray) (s : ByteArray) (hs : s.size ≤ maxLen)
    (hm : a.eval m = .map (some b)) (hown : SetAt b n D w) (hx : a.eval x = .string s)
    (hK : wpList Try.prog ops Q rest (a.put o.dst (.bool (hasL D s))) w) :
    wpList Try.prog ops Q (o :: rest) a w := by
  refine wpList_plain hg fun K' hK' => ?_
  have hkey : keyOf Try.prog 9 (.string s) = some (keyLit s) := keyOf_string_mk Try.underlying9 hs
  obtain ⟨v, ps, hrun, hv⟩ := World.ownsMap.lookup hown law9 Try.underlying48 (zero4 w) (plainElem_bool Try.underlying4 false) hkey
  obtain ⟨c, rfl, hc⟩ := plainElem_bool_inv hv
  simp only [Prod.mk.injEq] at hc
  have hcc : c = hasL D s := by
    have := hc.1
    rw [atKey_seen] at this
    simpa using this.symm
  subst hcc
  unfold Oper.wp
  simp [execOp, hop, hm, hx, hrun, Result.andThen]
  exact hK' _ _ hK

/-- 'seen[s] = true' -/
theorem wpList_mark (w : World) {ops : Array Oper} {rest : List Oper} {o : Oper} {a : Act} {Q : Exit → Act → World → Prop}
    (hg : o.guard = none) (m x v : Operand) (hop : o.op = Op.mapUpdate 48 m x v) (b n : Nat) (D : List ByteArray) (s : ByteArray) (hs : s.size ≤ maxLen) (hn : n < maxLen)
    (hm : a.eval m = .map (some b)) (hown : SetAt b n D w) (hx : a.eval x = .string s) (hv : a.eval v = .bool true)
    (hK : ∀ w', Hid (SetAt b (n + 1) (D ++ [s]) w') → Hid (w.grownBy w' (some b)) → wpList Try.prog ops Q rest (a.put o.dst undef) w') :
    wpList Try.prog ops Q (o :: rest) a w := by
  have hkey : keyOf Try.prog 9 (.string s) = some (keyLit s) := keyOf_string_mk Try.underlying9 hs
  refine wpList_mapUpdate_own w hg m x v 48 hop 9 4 law9 Try.underlying48 _ b n (seenD D) hm hown hn (.string s) (.bool true) (keyLit s) hx hv hkey (.lit (.bool true)) [] (plainElem_bool Try.underlying4 true) ?_
  intro w' h1 h2
  refine hK w' ?_ h2
  have e1 : seenD (D ++ [s]) = (seenD D).put (keyLit s) (.lit (.bool true)) := by
    simp only [seenD, List.map_append, List.map_cons, List.map_nil]
    exact Maps.setOf_snoc _ _ _
  show w'.ownsMap Try.prog 9 (plainElem Try.prog 4) b (n + 1) (seenD (D ++ [s]))
  rw [e1]
  exact h1

end Go.Proofs.Qxb6601111a
