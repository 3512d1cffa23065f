import Derived.Test.Qxb6601111aAltC
import Derived.Test.Qxb6601111aAltP
import Derived.Deep.CutBlock
namespace Go.Proofs.Qxb6601111a
open Go.RowKit
set_option linter.unusedVariables false

theorem needles_yes2 (a : Option Addr) (cap : Nat) (ss : List ByteArray) (w : World) :
    Calls Try.prog 27 #[.agg #[.int .i64 2, .slice a ss.length cap]] w fun e w' => e = .returned (.tuple #[.slice a ss.length cap, .bool true]) ∧ Below w.heap.size w w' := by
  go_enter Try.func27, Try.ntmps27
  go_wp2
  go_ret2
  exact ⟨rfl, (Below.refl _ _).alloc (Nat.le_refl _) _⟩
theorem needles_other (k : Int) (a : Option Addr) (cap : Nat) (ss : List ByteArray) (w : World) (h1 : (k == 1) = false) (h2 : (k == 2) = false) :
    Calls Try.prog 27 #[.agg #[.int .i64 k, .slice a ss.length cap]] w fun e w' => e = .returned (.tuple #[.slice none 0 0, .bool false]) ∧ Below w.heap.size w w' := by
  go_enter Try.func27, Try.ntmps27
  go_wp2
  go_ret2
  exact ⟨rfl, (Below.refl _ _).alloc (Nat.le_refl _) _⟩
/-- needles' two answers -/
def nres (ok : Bool) (a : Option Addr) (m cap : Nat) : Value := if ok = true then .tuple #[.slice a m cap, .bool true] else .tuple #[.slice none 0 0, .bool false]

theorem needles_exact (a : Option Addr) (cap : Nat) (ss : List ByteArray) (w : World) (hl : ss.length ≤ 65536) (h : StrsAt w a ss) :
    Calls Try.prog 27 #[.agg #[.int .i64 1, .slice a ss.length cap]] w fun e w' => e = .returned (nres (!emptyIn ss) a ss.length cap) ∧ Below w.heap.size w w' := by
  have HS : Hid (StrsAt (w.alloc (.cells #[.int .i64 1, .slice a ss.length cap] 43)) a ss) := h.below ((Below.refl _ _).alloc (Nat.le_refl _) _)
  clear h
  go_enter Try.func27, Try.ntmps27
  go_wp2
  go_loop [17] (fun v => ∃ k : Nat, k ≤ ss.length ∧ v = .int .i64 k ∧ Hid (emptyIn (ss.take k) = false)) (fun v => ss.length - (intOf v).toNat)
  case atStart => exact ⟨0, by omega, rfl, by simp [Hid, emptyIn]⟩
  case round =>
    obtain ⟨k, hk, rfl, HN⟩ := hrel
    by_cases hlt : k < ss.length
    · have hki : (k : Int) < (ss.length : Int) := by omega
      obtain ⟨t, ht⟩ : ∃ t, t = ss.getD k ByteArray.empty := ⟨_, rfl⟩
      obtain ⟨b, off, rfl, hc⟩ := HS.out k hlt
      rw [← ht] at hc
      have HT : Hid (emptyIn (ss.take (k + 1)) = (emptyIn (ss.take k) || t.toList.isEmpty)) := emptyIn_take_succ hlt ht
      clear ht
      cases hq : t.toList.isEmpty
      · have HN2 : Hid (emptyIn (ss.take (k + 1)) = false) := by rw [Hid, HT.out, HN.out, hq]; rfl
        go_wp2
        go_round
        case rel => exact ⟨k + 1, by omega, by go_num, HN2⟩
        case measure => simp [intOf]; omega
      · have HY : Hid (emptyIn ss = true) := emptyIn_of_take (k := k + 1) (by rw [HT.out, HN.out, hq]; rfl)
        go_wp2
        go_ret2
        exact ⟨by rw [HY.out]; rfl, (Below.refl _ _).alloc (Nat.le_refl _) _⟩
    · have hki : decide ((k : Int) < (ss.length : Int)) = false := decide_eq_false (by omega)
      have HF : Hid (emptyIn ss = false) := by have := HN.out; rwa [List.take_of_length_le (by omega)] at this
      go_wp2
      go_ret2
      exact ⟨by rw [HF.out]; rfl, (Below.refl _ _).alloc (Nat.le_refl _) _⟩

/-- needles: the set where there are needles -/
theorem needles_any (k : Int) (a : Option Addr) (cap : Nat) (ss : List ByteArray) (w : World) (hl : ss.length ≤ 65536) (h : StrsAt w a ss) :
    Calls Try.prog 27 #[.agg #[.int .i64 k, .slice a ss.length cap]] w fun e w' => e = .returned (nres (needleOk (k, ss)) a ss.length cap) ∧ Below w.heap.size w w' := by
  by_cases h2 : k = 2
  · subst h2
    refine (needles_yes2 a cap ss w).mono ?_
    rintro e w' ⟨rfl, hb⟩
    exact ⟨by rw [show needleOk (2, ss) = true by simp [needleOk]]; rfl, hb⟩
  · by_cases h1 : k = 1
    · subst h1
      refine (needles_exact a cap ss w hl h).mono ?_
      rintro e w' ⟨rfl, hb⟩
      exact ⟨by rw [show needleOk (1, ss) = !emptyIn ss by simp [needleOk]], hb⟩
    · refine (needles_other k a cap ss w (by simpa using h1) (by simpa using h2)).mono ?_
      rintro e w' ⟨rfl, hb⟩
      exact ⟨by rw [show needleOk (k, ss) = false by simp [needleOk, h1, h2]]; rfl, hb⟩

end Go.Proofs.Qxb6601111a
