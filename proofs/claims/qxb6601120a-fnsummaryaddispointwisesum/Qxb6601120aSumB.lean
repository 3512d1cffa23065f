import Derived.Test.Qxb6601120aSumA
import Derived.Maps.OwnSet
import Derived.Maps.OwnOps
import Derived.RegionTactic
import Derived.ChangeAlike
namespace Go.Proofs.Qxb6601120a
open Go.RowKit
open Go.Maps (Keyed string_keyed)
open Go.WideMaps
set_option linter.unusedVariables false

/-! ### a map of counts -/
def keyLit (s : ByteArray) : Lit := .string s.data.toList
theorem isKey_lit (s : ByteArray) : WideAt.IsKeyLit (keyLit s) := by simp [keyLit, WideAt.IsKeyLit]
def num (n : Int) : DataW Unit := .lit (.int .i64 n)
def putAll (D : DataW Unit) (es : List (ByteArray × Int)) : DataW Unit := es.foldl (fun m e => m.put (keyLit e.1) (num e.2)) D
def mapD (es : List (ByteArray × Int)) : DataW Unit := putAll (.map []) es
theorem mapD_take_succ {es : List (ByteArray × Int)} {i : Nat} {t : ByteArray} {m : Int} (he : es[i]? = some (t, m)) : mapD (es.take (i + 1)) = (mapD (es.take i)).put (keyLit t) (num m) := by
  obtain ⟨hi, hp⟩ := List.getElem?_eq_some_iff.1 he
  unfold mapD putAll
  rw [List.take_succ_eq_append_getElem hi, List.foldl_append, hp]
  rfl

/-- block g is a map of at most n counts that reads as D -/
def Cnts (g n : Nat) (D : DataW Unit) (w : World) : Prop := w.ownsMap Try.prog 34 (plainElem Try.prog 3) g n D
theorem law34 : Keyed Try.prog 34 := string_keyed Try.underlying34
theorem run_mm (n : Int) (t : TypeId) (k e : TypeId) (ht : Try.prog.underlying t = some (.map k e)) (w : World) : (Instr.makeMap t (some (.int .i64 n))).run Try.prog w = .ok (.map (some w.heap.size)) (w.alloc (.map #[] 0)) := by
  simp [Instr.makeMap, run_underlying ht, asInt, asIntOf, Result.andThen]

def WfAll (es : List (ByteArray × Int)) : Prop := ∀ e ∈ es, (Lit.int .i64 e.2).wf = true
/-- nil, or a map of its own -/
def Made (B : Nat) (nb : Bool) (es : List (ByteArray × Int)) (mb : Option Nat) (w' : World) : Prop :=
  (mb = none ∧ nb = true ∧ es = []) ∨ (∃ g, mb = some g ∧ B ≤ g ∧ Cnts g es.length (mapD es) w' ∧ ¬ (nb = true ∧ es = []))

theorem Cnts.upd {g n : Nat} {D : DataW Unit} {w : World} (h : Cnts g n D w) (hn : n < maxLen) {t : ByteArray} (ht : t.size ≤ maxLen) {m : Int} (hm : (Lit.int .i64 m).wf = true) :
    ∃ w', (Instr.mapUpdate 27 (.map (some g)) (.string t) (.int .i64 m)).run Try.prog w = .ok () w' ∧ Cnts g (n + 1) (D.put (keyLit t) (num m)) w' ∧ w.grownBy w' (some g) := by
  have hkey : keyOf Try.prog 34 (.string t) = some (keyLit t) := keyOf_string_mk Try.underlying34 ht
  exact World.ownsMap.update h law34 Try.underlying27 hn hkey (plainElem_int Try.underlying3 hm)
theorem Cnts.drew {g n : Nat} {D : DataW Unit} {w : World} (h : Cnts g n D w) : Cnts g n D w.drew := h
theorem Cnts.made (w : World) (o : Obj) (es : List (ByteArray × Int)) : Cnts (w.heap.size + 1) 0 (mapD (es.take 0)) ((w.alloc o).alloc (.map #[] 0)) := by
  have h := World.ownsMap_made (H := Unit) (w.alloc o) Try.prog 34 (plainElem Try.prog 3)
  have e : (w.alloc o).heap.size = w.heap.size + 1 := by simp
  rw [e] at h
  exact h

set_option maxHeartbeats 400000 in
theorem outcomes (a : Option Addr) (cap : Nat) (es : List (ByteArray × Int)) (nb : Bool) (n1 n2 n3 n4 n5 : Int) (w : World) (hs : Small es) (hw : WfAll es) (h : EntsAt w a es) :
    Calls Try.prog 8 #[.agg #[.slice a es.length cap, .bool nb, .int .i64 n1, .int .i64 n2, .int .i64 n3, .int .i64 n4, .int .i64 n5]] w
      fun e w' => ∃ mb, e = .returned (.map mb) ∧ Made w.heap.size nb es mb w' ∧ Below w.heap.size w w' := by
  have hmm := fun n => run_mm n 27 34 3 Try.underlying27
  have HP : Hid (EntsAt w a es) := h
  have HS : Hid (Small es) := hs
  have HW : Hid (WfAll es) := hw
  have HB : ∀ o, Hid (Below w.heap.size w (w.alloc o)) := fun o => (Below.refl _ _).alloc (Nat.le_refl _) o
  have hlen := hs.1
  clear h hs hw
  by_cases hnil : nb = true ∧ es = []
  · obtain ⟨rfl, rfl⟩ := hnil
    simp only [List.length_nil]
    go_enter Try.func8, Try.ntmps8
    go_wp2
    go_ret
    exact ⟨none, rfl, .inl ⟨rfl, rfl, rfl⟩, (HB _).out⟩
  · have HN : Hid (¬ (nb = true ∧ es = [])) := hnil
    have hne : nb = true → ((es.length : Int) == 0) = false := by
      intro e
      have : es ≠ [] := fun e2 => hnil ⟨e, e2⟩
      have := List.length_pos_iff.2 this
      simp; intro h0; subst h0; simp at this
    clear hnil
    have HL : ∀ o, Hid (EntsAt (w.alloc o) a es) := fun o => HP.out.alloc o
    cases nb
    all_goals
      simp only [false_implies, true_implies, Bool.false_eq_true] at hne
      go_enter Try.func8, Try.ntmps8
      go_wp2
      go_loopw [4] (fun v4 wr => ∃ i : Nat, i ≤ es.length ∧ v4 = .int .i64 i ∧ Hid (Cnts (w.heap.size + 1) i (mapD (es.take i)) wr) ∧ Hid (∃ nb, Below (w.heap.size + 1) (w.alloc (.cells #[.slice a es.length cap, .bool nb, .int .i64 n1, .int .i64 n2, .int .i64 n3, .int .i64 n4, .int .i64 n5] 24)) wr))
        (fun v4 _ => es.length - (intOf v4).toNat)
      case atStart => exact ⟨0, by omega, rfl, Cnts.made _ _ _, _, (Below.refl _ _).alloc (by simp) _⟩
      case round =>
        obtain ⟨i, hi, rfl, HC, HBL⟩ := hrel
        by_cases hlt : i < es.length
        · have hki : (i : Int) < (es.length : Int) := by omega
          obtain ⟨nbx, HBX⟩ := HBL.out
          have hbox := HBX.cell (p := ⟨w.heap.size, 0, none⟩) (by simp)
          simp at hbox
          have HBY : Hid (Below (w.heap.size + 1) (w.alloc (.cells #[.slice a es.length cap, .bool nbx, .int .i64 n1, .int .i64 n2, .int .i64 n3, .int .i64 n4, .int .i64 n5] 24)) wr) := HBX
          clear HBX HBL
          obtain ⟨b, off, e, rfl, he, hb, hc0, hc1⟩ := (HL _).out.below (HBY.out.mono (by simp)) i hlt
          obtain ⟨t, m⟩ := e
          have hts := HS.out.2 _ (List.mem_of_getElem? he)
          have htw := HW.out _ (List.mem_of_getElem? he)
          dsimp only at hc0 hc1 hts htw
          obtain ⟨w2, hup, hcn, hgr⟩ := HC.out.drew.upd (by unfold maxLen; omega) (t := t) (by unfold maxLen; omega) htw
          have HC2 : Hid (Cnts (w.heap.size + 1) (i + 1) (mapD (es.take (i + 1))) w2) := by rw [Hid, mapD_take_succ he]; exact hcn
          have HB2 : Hid (Below (w.heap.size + 1) (w.alloc (.cells #[.slice (some ⟨b, off, none⟩) es.length cap, .bool nbx, .int .i64 n1, .int .i64 n2, .int .i64 n3, .int .i64 n4, .int .i64 n5] 24)) w2) :=
            HBY.out.drew.grown hgr (by have := HBY.out.size; simp at this; exact this) (fun k hk => by cases hk; exact Nat.le_refl _)
          clear hcn hgr he htw hts
          go_wp2
          go_region
          go_wp2
          go_roundw
          case rel => exact ⟨i + 1, by omega, by go_num, HC2, nbx, HB2.out⟩
          case measure => simp [intOf]; omega
        · obtain ⟨nbx, HBX⟩ := HBL.out
          have hbox := HBX.cell (p := ⟨w.heap.size, 0, none⟩) (by simp)
          simp at hbox
          have HBY : Hid (Below w.heap.size w wr) := ((HB _).out.trans (HBX.mono (by omega)))
          clear HBX HBL
          have hki : decide ((i : Int) < (es.length : Int)) = false := decide_eq_false (by omega)
          have HF : Hid (Cnts (w.heap.size + 1) es.length (mapD es) wr) := by
            have h := HC.out
            have e : i = es.length := by omega
            rw [e, List.take_length] at h
            exact h
          go_wp2
          go_ret
          exact ⟨_, rfl, .inr ⟨_, rfl, by omega, HF.out, by have := HN.out; simp at this; simp [this]⟩, HBY.out⟩

end Go.Proofs.Qxb6601120a
