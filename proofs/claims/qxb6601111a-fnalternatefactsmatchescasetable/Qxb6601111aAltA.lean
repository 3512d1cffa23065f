import Derived.Test.Qxb6601111aRow
import Derived.Deep.QuietTactic
import Derived.BigQuiet
namespace Go.Proofs.Qxb6601111a
open Go.RowKit
set_option linter.unusedVariables false

/-! ### lists of strings, plain -/
def hasL (D : List ByteArray) (s : ByteArray) : Bool := D.any fun t => t.toList == s.toList
def addNew (D : List ByteArray) (s : ByteArray) : List ByteArray := if hasL D s = true then D else D ++ [s]
theorem hasL_take_succ (D : List ByteArray) (s t : ByteArray) (k : Nat) (hk : k < D.length) (ht : t = D.getD k ByteArray.empty) : hasL (D.take (k + 1)) s = (hasL (D.take k) s || (t.toList == s.toList)) := by
  have e : t = D[k] := by rw [ht]; simp [List.getD, hk]
  have e2 : D.take (k + 1) = D.take k ++ [D[k]] := List.take_succ_eq_append_getElem hk
  unfold hasL
  rw [e2, List.any_append, e]
  simp only [List.any_cons, List.any_nil, Bool.or_false]
theorem hasL_of_take {D : List ByteArray} {s : ByteArray} {k : Nat} (h : hasL (D.take k) s = true) : hasL D s = true := by
  simp only [hasL, List.any_eq_true] at h ⊢
  obtain ⟨x, hx, h⟩ := h
  exact ⟨x, List.mem_of_mem_take hx, h⟩
theorem addNew_length (D : List ByteArray) (s : ByteArray) : D.length ≤ (addNew D s).length ∧ (addNew D s).length ≤ D.length + 1 := by
  unfold addNew; split <;> simp

/-! ### slices of strings in memory -/
def StrsAt (w : World) (a : Option Addr) (D : List ByteArray) : Prop :=
  ∀ j, j < D.length → ∃ b off, a = some ⟨b, off, none⟩ ∧ w.cell? ⟨b, off + j, none⟩ = some (.string (D.getD j ByteArray.empty))

theorem contains_any (a : Option Addr) (cap : Nat) (D : List ByteArray) (s : ByteArray) (w : World) (hm : D.length ≤ 1048576) (hS : StrsAt w a D) :
    Calls Try.prog 17 #[.slice a D.length cap, .string s] w fun e w' => e = .returned (.bool (hasL D s)) ∧ w = w' := by
  have HS : Hid (StrsAt w a D) := hS
  clear hS
  go_enter Try.func17, Try.ntmps17
  go_wp2
  go_loop [5] (fun v5 => ∃ k : Nat, k ≤ D.length ∧ v5 = .int .i64 k ∧ Hid (hasL (D.take k) s = false)) (fun v5 => D.length - (intOf v5).toNat)
  case atStart => exact ⟨0, by omega, rfl, by simp [Hid, hasL]⟩
  case round =>
    obtain ⟨k, hk, rfl, HN⟩ := hrel
    by_cases hlt : k < D.length
    · have hki : (k : Int) < (D.length : Int) := by omega
      obtain ⟨t, ht⟩ : ∃ t, t = D.getD k ByteArray.empty := ⟨_, rfl⟩
      obtain ⟨b, off, rfl, hc⟩ := HS.out k hlt
      rw [← ht] at hc
      have HT : Hid (hasL (D.take (k + 1)) s = (hasL (D.take k) s || (t.toList == s.toList))) := hasL_take_succ D s t k hlt ht
      clear ht
      cases hq : (t.toList == s.toList)
      · have HN2 : Hid (hasL (D.take (k + 1)) s = false) := by rw [Hid, HT.out, HN.out, hq]; rfl
        go_wp2
        go_round
        case rel => exact ⟨k + 1, by omega, by go_num, HN2⟩
        case measure => simp [intOf]; omega
      · have HY : Hid (hasL D s = true) := hasL_of_take (k := k + 1) (by rw [HT.out, HN.out, hq]; rfl)
        go_wp2
        go_ret
        exact ⟨by rw [HY.out]; rfl, rfl⟩
    · have hki : decide ((k : Int) < (D.length : Int)) = false := decide_eq_false (by omega)
      have HF : Hid (hasL D s = false) := by have := HN.out; rwa [List.take_of_length_le (by omega)] at this
      go_wp2
      go_ret
      exact ⟨by rw [HF.out]; rfl, rfl⟩

theorem drewN_below {B : Nat} {w w' : World} (h : Below B w w') (n : Nat) : Below B w (w'.drewN n) := by
  induction n with
  | zero => exact h
  | succ n ih => exact ih.drew

/-- Two slices of the same strings: sameStrings says true. -/
theorem same_any (a a' : Option Addr) (cap cap' : Nat) (D : List ByteArray) (w : World) (hm : D.length ≤ 1048576) (hS : StrsAt w a D) (hS' : StrsAt w a' D) :
    Calls Try.prog 14 #[.slice a D.length cap, .slice a' D.length cap'] w fun e w' => e = .returned (.bool true) ∧ ∃ n, w' = w.drewN n := by
  have HS : Hid (StrsAt w a D) := hS
  have HS' : Hid (StrsAt w a' D) := hS'
  clear hS hS'
  have hz : ((D.length : Int) != (D.length : Int)) = false := by simp
  go_enter Try.func14, Try.ntmps14
  go_wp2
  go_loopw [5] (fun v5 wr => ∃ k : Nat, k ≤ D.length ∧ v5 = .int .i64 k ∧ ∃ n, wr = w.drewN n) (fun v5 _ => D.length - (intOf v5).toNat)
  case atStart => exact ⟨0, by omega, rfl, 0, rfl⟩
  case round =>
    obtain ⟨k, hk, rfl, n, rfl⟩ := hrel
    by_cases hlt : k < D.length
    · have hki : (k : Int) < (D.length : Int) := by omega
      obtain ⟨t, ht⟩ : ∃ t, t = D.getD k ByteArray.empty := ⟨_, rfl⟩
      obtain ⟨b, off, rfl, hc⟩ := HS.out k hlt
      obtain ⟨b', off', rfl, hc'⟩ := HS'.out k hlt
      rw [← ht] at hc hc'
      clear ht
      go_wp2
      go_quiet (fail)
      go_wp2
      go_roundw
      case rel => exact ⟨k + 1, by omega, by go_num, _, rfl⟩
      case measure => simp [intOf]; omega
    · have hki : decide ((k : Int) < (D.length : Int)) = false := decide_eq_false (by omega)
      go_wp2
      go_ret
      exact ⟨rfl, n, rfl⟩

/-! ### a slice of strings that the call made -/
theorem Try.info9 : (Try.prog.info? 9).map (fun i => (i.zero, i.size, i.bytes)) = some (some (.string ByteArray.empty), 1, 16) := by kernel_rfl

def OwnS (B : Nat) (a : Option Addr) (cap : Nat) (D : List ByteArray) (wr : World) : Prop :=
  wr.ownsRow B 9 1 (.slice a D.length cap) D.length (D.map Value.string) ∧ (a = none ↔ D = [])

theorem OwnS.nil (B : Nat) (w : World) : OwnS B none 0 [] w := ⟨World.ownsRow_nil _ _ _ _, by simp⟩

theorem owns_addr {w : World} {B e n cap : Nat} {a : Option Addr} {xs : List Value} (h : w.ownsRow B e 1 (.slice a n cap) n xs) : a = none ∨ ∃ g, a = some ⟨g, 0, none⟩ ∧ B ≤ g ∧ g < w.heap.size := by
  rcases h.2 with ⟨h', _⟩ | ⟨g', cap', cur, h', hb, hg, _⟩
  · simp at h'; exact .inl h'.1
  · simp only [Value.slice.injEq, true_and] at h'
    exact .inr ⟨g', h'.1, hb, (Array.getElem?_eq_some_iff.1 hg).1⟩

theorem OwnS.strs {B cap : Nat} {a : Option Addr} {D : List ByteArray} {wr : World} (h : OwnS B a cap D wr) : StrsAt wr a D := by
  intro j hj
  rcases owns_addr h.1 with e | ⟨g, e, _, _⟩
  · rw [h.2.1 e] at hj; simp at hj
  · subst e
    refine ⟨g, 0, rfl, ?_⟩
    have := h.1.cellAt j (by omega)
    rw [Nat.zero_add, this]
    simp [List.getD, hj]

/-- w' is w but for new blocks and writes to a's own block -/
def GrownS (a : Option Addr) (w w' : World) : Prop := w.grownBy w' (a.map (·.block))

theorem GrownS.refl (a : Option Addr) (w : World) : GrownS a w w := World.grownBy.refl _ _
theorem GrownS.alloc {a : Option Addr} {w w' : World} (h : GrownS a w w') (o : Obj) : GrownS a w (w'.alloc o) := by
  refine ⟨h.os, h.tape, h.output, Nat.le_trans h.size (by simp), fun k hk hne => ?_⟩
  rw [Below.heap_alloc _ _ _ (Nat.lt_of_lt_of_le hk h.size)]
  exact h.block k hk hne

theorem shape_of {w : World} {B : Nat} {v : Value} {D : List ByteArray} (h : w.ownsRow B 9 1 v D.length (D.map Value.string)) (hne : v ≠ .slice none 0 0) (hD : D ≠ []) :
    ∃ a cap, v = .slice a D.length cap ∧ OwnS B a cap D w := by
  rcases h.2 with ⟨h', _⟩ | ⟨g, cap, cur, h', r⟩
  · exact absurd h' hne
  · refine ⟨some ⟨g, 0, none⟩, cap, h', ⟨by rw [← h']; exact h, by simp [hD]⟩⟩

/-- 'x = append(x, s)', x the call's own: it may grow. -/
theorem wpList_pushS {P : Program} (wr : World) (B : Nat) {ops : Array Oper} {rest : List Oper} {o : Oper} {act : Act} {Q : Exit → Act → World → Prop} {o1 : Obj}
    (hg : o.guard = none) (sl x : Operand) (t : TypeId) (hop : o.op = Op.call { callee := Callee.builtin Builtin.append, args := #[sl, x], argTypes := #[t, t] })
    (i : TypeInfo) (h1 : P.underlying t = some (.slice 9)) (h2 : P.info? 9 = some i) (h3 : i.zero = some (.string ByteArray.empty)) (h4 : i.size = 1) (h5 : i.bytes = 16)
    (a : Option Addr) (cap : Nat) (D : List ByteArray) (s : ByteArray) (hs : act.eval sl = .slice a D.length cap) (hx : act.eval x = .slice (some ⟨wr.heap.size, 0, none⟩) 1 1)
    (hown : OwnS B a cap D wr) (hB : B ≤ wr.heap.size) (hc : (wr.alloc o1).cell? ⟨wr.heap.size, 0, none⟩ = some (.string s)) (hD : D.length ≤ 1048576)
    (hK : ∀ a' cap' w', Hid (OwnS B a' cap' (D ++ [s]) w') → Hid (GrownS a wr w') → wpList P ops Q rest (act.put o.dst (.slice a' (D.length + 1) cap')) w') :
    wpList P ops Q (o :: rest) act (wr.alloc o1) := by
  refine wpList_append_own _ hg sl x t hop B 9 i (.string ByteArray.empty) 1 16 h1 h2 h3 h4 h5 rfl (by decide) _ _ _ hs (hown.1.alloc _) ⟨wr.heap.size, 0, none⟩ 1 1 [.string s] hx rfl ?_ ?_ (by unfold maxLen; omega) (by omega) (by simp; omega) ?_
  · intro j u hj
    match j, hj with
    | 0, hj => simp at hj; subst hj; simpa [Addr.add] using hc
  · intro u hu; simp at hu; subst hu; rfl
  · intro v' w1 hown1 hgrow hnil
    have HG : Hid (GrownS a wr w1) := by
      have h2 : GrownS a wr (wr.alloc o1) := (GrownS.refl a wr).alloc _
      refine ⟨hgrow.os.trans h2.os, hgrow.tape.trans h2.tape, hgrow.output.trans h2.output, Nat.le_trans h2.size hgrow.size, fun k hk hne => ?_⟩
      have e : (Value.slice a D.length cap).ownBlock = a.map (·.block) := by cases a <;> rfl
      rw [hgrow.block k (by simp; omega) (by rw [e]; exact hne), Below.heap_alloc _ _ _ hk]
    have hown' : w1.ownsRow B 9 1 v' (D ++ [s]).length ((D ++ [s]).map Value.string) := by simpa using hown1
    obtain ⟨a', cap', hv', HO'⟩ := shape_of hown' (by intro e; have := hnil.1 e; simp at this) (by simp)
    subst hv'
    have := hK a' cap' w1 HO' HG
    simpa using this

theorem appendNew_any (B : Nat) (a : Option Addr) (cap : Nat) (D : List ByteArray) (s : ByteArray) (w : World) (hB : B ≤ w.heap.size) (hD : D.length ≤ 1048576) (h : OwnS B a cap D w) :
    Calls Try.prog 26 #[.slice a D.length cap, .string s] w fun e w' => ∃ a' cap', e = .returned (.slice a' (addNew D s).length cap') ∧ OwnS B a' cap' (addNew D s) w' ∧ GrownS a w w' := by
  obtain ⟨i0, hi, hz0, hz1, hz2⟩ := info_parts Try.info9
  have HO : Hid (OwnS B a cap D w) := h
  have HS : Hid (StrsAt w a D) := h.strs
  clear h
  go_enter Try.func26, Try.ntmps26
  go_wp2
  go_loop [9] (fun v9 => ∃ k : Nat, k ≤ D.length ∧ v9 = .int .i64 k ∧ Hid (hasL (D.take k) s = false)) (fun v9 => D.length - (intOf v9).toNat)
  case atStart => exact ⟨0, by omega, rfl, by simp [Hid, hasL]⟩
  case round =>
    obtain ⟨k, hk, rfl, HN⟩ := hrel
    by_cases hlt : k < D.length
    · have hki : (k : Int) < (D.length : Int) := by omega
      obtain ⟨t, ht⟩ : ∃ t, t = D.getD k ByteArray.empty := ⟨_, rfl⟩
      obtain ⟨b, off, rfl, hc⟩ := HS.out k hlt
      rw [← ht] at hc
      have HT : Hid (hasL (D.take (k + 1)) s = (hasL (D.take k) s || (t.toList == s.toList))) := hasL_take_succ D s t k hlt ht
      clear ht
      cases hq : (t.toList == s.toList)
      · have HN2 : Hid (hasL (D.take (k + 1)) s = false) := by rw [Hid, HT.out, HN.out, hq]; rfl
        go_wp2
        go_round
        case rel => exact ⟨k + 1, by omega, by go_num, HN2⟩
        case measure => simp [intOf]; omega
      · have HY : Hid (addNew D s = D) := by rw [Hid, addNew, if_pos (hasL_of_take (k := k + 1) (by rw [HT.out, HN.out, hq]; rfl))]
        go_wp2
        go_ret
        rw [HY.out]
        exact ⟨_, _, rfl, HO.out, GrownS.refl _ _⟩
    · have hki : decide ((k : Int) < (D.length : Int)) = false := decide_eq_false (by omega)
      have HF : Hid (addNew D s = D ++ [s]) := by
        have := HN.out
        rw [List.take_of_length_le (by omega)] at this
        rw [Hid, addNew, if_neg (by rw [this]; decide)]
      go_wp2_with (first | (at_builtin; go_must (refine wpList_pushS w B rfl _ _ 29 rfl i0 Try.underlying29 hi hz0 hz1 hz2 a cap D s rfl rfl HO.out hB ?c1 (by omega) ?_)))
      try case c1 => simp
      intro a' cap' w1 HO2 HG
      go_wp2
      go_ret
      rw [HF.out]
      exact ⟨a', cap', by simp, HO2.out, HG.out⟩

end Go.Proofs.Qxb6601111a
