import Derived.Test.Qxb6000357aNextP
import Derived.Deep.DeepCutAuto
import Derived.WalkSpells
namespace Go.Proofs.Qxb6000357a
open Go.RowKit
set_option linter.unusedVariables false

/-- the bytes of s as numbers; with one nought behind them where plus0 is set -/
def bytesOf (s : ByteArray) : List Int := s.data.toList.map fun b => (b.toNat : Int)
def numL (s : ByteArray) (p : Bool) : List Int := bytesOf s ++ if p = true then [48] else []

theorem bytesOf_length (s : ByteArray) : (bytesOf s).length = s.size := by simp [bytesOf]
theorem bytesOf_getD (s : ByteArray) (i : Nat) (h : i < s.size) : (bytesOf s).getD i 48 = ((s[i]'h).toNat : Int) := by
  simp only [bytesOf, List.getD_eq_getElem?_getD, List.getElem?_map]
  rw [List.getElem?_eq_getElem (by simpa using h)]
  rfl
theorem numL_lt (s : ByteArray) (p : Bool) (i : Nat) (h : i < s.size) : (numL s p).getD i 48 = ((s[i]'h).toNat : Int) := by
  rw [← bytesOf_getD s i h]
  simp only [numL, List.getD_eq_getElem?_getD]
  rw [List.getElem?_append_left (by rw [bytesOf_length]; exact h)]
theorem numL_ge (s : ByteArray) (p : Bool) (i : Nat) (h : ¬ i < s.size) : (numL s p).getD i 48 = 48 := by
  simp only [numL, List.getD_eq_getElem?_getD]
  rw [List.getElem?_append_right (by rw [bytesOf_length]; omega)]
  cases p
  · simp
  · rw [if_pos rfl]
    cases i - (bytesOf s).length <;> rfl
theorem numL_length (s : ByteArray) (p : Bool) : (numL s p).length = s.size + if p = true then 1 else 0 := by
  cases p <;> simp [numL, bytesOf_length]
theorem numL_bd (s : ByteArray) (p : Bool) (i : Nat) : 0 ≤ (numL s p).getD i 48 ∧ (numL s p).getD i 48 ≤ 255 := by
  by_cases h : i < s.size
  · rw [numL_lt s p i h]
    have := (s[i]'h).toNat_lt
    omega
  · rw [numL_ge s p i h]; decide

/-- the i-th, behind a name that the walk does not open -/
def gAt (s : ByteArray) (p : Bool) (i : Nat) : Int := (numL s p).getD i 48

/-- zzAt reads the i-th. -/
theorem zzAt_any (s : ByteArray) (p : Bool) (n : Nat) (w : World) (hn : n ≤ 65537) (hs : s.size ≤ 65536) :
    Calls Try.prog 25 #[.string s, .bool p, .int .i64 (n : Int)] w fun e w' => e = .returned (.int .u8 (gAt s p n)) ∧ w = w' := by
  unfold gAt
  by_cases h : n < s.size
  · rw [numL_lt s p n h]
    have hl : (n : Int) < (s.size : Int) := by omega
    go_enter Try.func25, Try.ntmps25
    go_wp2
    go_ret
    exact ⟨rfl, rfl⟩
  · rw [numL_ge s p n h]
    have hl : decide ((n : Int) < (s.size : Int)) = false := decide_eq_false (by omega)
    go_enter Try.func25, Try.ntmps25
    go_wp2
    go_ret
    exact ⟨rfl, rfl⟩
theorem zzAt_zero (s : ByteArray) (p : Bool) (w : World) (hs : s.size ≤ 65536) :
    Calls Try.prog 25 #[.string s, .bool p, .int .i64 0] w fun e w' => e = .returned (.int .u8 (gAt s p 0)) ∧ w = w' :=
  zzAt_any s p 0 w (by omega) hs

theorem zzDigit_w (c : Int) (w : World) :
    Calls Try.prog 16 #[.int .u8 c] w fun e w' => e = .returned (.bool (dig c)) ∧ w = w' :=
  (zzDigit_any c w).mono fun _ _ h => ⟨h.1, h.2.symm⟩

/-! ### from places to what is left -/
theorem drop_cons (l : List Int) (i : Nat) (h : i < l.length) : l.drop i = l.getD i 48 :: l.drop (i + 1) := by
  rw [List.drop_eq_getElem_cons h]
  simp [List.getD_eq_getElem?_getD, h]
theorem drop_nil (l : List Int) (i : Nat) (h : ¬ i < l.length) : l.drop i = [] := List.drop_eq_nil_of_le (by omega)

def DRel (l : List Int) (st k : Nat) : Prop := k ≤ l.length ∧ st ≤ k ∧ dropDig (l.drop st) = dropDig (l.drop k) ∧ (st < k → firstDig (l.drop st) = true)
theorem DRel.start (l : List Int) (st : Nat) (h : st ≤ l.length) : DRel l st st := ⟨h, Nat.le_refl _, rfl, fun h => by omega⟩
theorem DRel.step {l : List Int} {st k : Nat} (h : DRel l st k) (hk : k < l.length) (hd : dig (l.getD k 48) = true) : DRel l st (k + 1) := by
  obtain ⟨h1, h2, h3, h4⟩ := h
  refine ⟨by omega, by omega, ?_, fun _ => ?_⟩
  · rw [h3, drop_cons l k hk, dropDig, if_pos hd]
  · by_cases e : st < k
    · exact h4 e
    · obtain rfl : st = k := by omega
      rw [drop_cons l st hk]; exact hd
theorem DRel.done {l : List Int} {st k : Nat} (h : DRel l st k) (hd : k < l.length → dig (l.getD k 48) = false) : dropDig (l.drop st) = l.drop k ∧ (k = st → firstDig (l.drop st) = false) := by
  obtain ⟨h1, h2, h3, h4⟩ := h
  by_cases hk : k < l.length
  · have hd' := hd hk
    refine ⟨?_, fun e => ?_⟩
    · rw [h3, drop_cons l k hk, dropDig, if_neg (by rw [hd']; decide)]
    · subst e; rw [drop_cons l k hk]; exact hd'
  · refine ⟨?_, fun e => ?_⟩
    · rw [h3, drop_nil l k hk]; rfl
    · subst e; rw [drop_nil l k hk]; rfl

/-! ### each step, plain -/
theorem st_neg {l : List Int} (h : 0 < l.length ∧ l.getD 0 48 = 45) : valid l = vInt (l.drop 1) := by
  have e := drop_cons l 0 h.1
  rw [List.drop_zero] at e
  rw [e, h.2]
  simp [valid]
theorem st_pos {l : List Int} (h : ¬ (0 < l.length ∧ l.getD 0 48 = 45)) : valid l = vInt (l.drop 0) := by
  by_cases h0 : 0 < l.length
  · have e := drop_cons l 0 h0
    have hne : ¬ l.getD 0 48 = 45 := fun x => h ⟨h0, x⟩
    rw [e]
    rw [List.drop_zero] at e
    generalize l.getD 0 48 = c at *
    rw [e]
    simp [valid, hne]
  · have : l = [] := List.eq_nil_of_length_eq_zero (by omega)
    subst this
    rfl
theorem int_none {l : List Int} {k : Nat} (h : ¬ k < l.length) : vInt (l.drop k) = false := by rw [drop_nil l k h]; rfl
theorem int_zero {l : List Int} {k : Nat} (h : k < l.length) (h2 : l.getD k 48 = 48) : vInt (l.drop k) = vFrac (l.drop (k + 1)) := by
  rw [drop_cons l k h, h2]; simp [vInt]
theorem int_dig {l : List Int} {k : Nat} (h : k < l.length) (h2 : l.getD k 48 ≠ 48) (h3 : dig (l.getD k 48) = true) : vInt (l.drop k) = vFrac (dropDig (l.drop (k + 1))) := by
  rw [drop_cons l k h]; simp only [vInt]; rw [if_neg h2, if_pos h3]
theorem int_no {l : List Int} {k : Nat} (h : k < l.length) (h2 : l.getD k 48 ≠ 48) (h3 : dig (l.getD k 48) = false) : vInt (l.drop k) = false := by
  rw [drop_cons l k h]; simp only [vInt]; rw [if_neg h2, if_neg (by rw [h3]; decide)]
theorem frac_yes {l : List Int} {k : Nat} (h : k < l.length ∧ l.getD k 48 = 46) : vFrac (l.drop k) = (firstDig (l.drop (k + 1)) && vTail (dropDig (l.drop (k + 1)))) := by
  rw [drop_cons l k h.1, h.2]; simp [vFrac]
theorem frac_no {l : List Int} {k : Nat} (h : ¬ (k < l.length ∧ l.getD k 48 = 46)) : vFrac (l.drop k) = vTail (l.drop k) := by
  by_cases h0 : k < l.length
  · rw [drop_cons l k h0]; simp only [vFrac]; rw [if_neg (fun x => h ⟨h0, x⟩)]
  · rw [drop_nil l k h0]; rfl
theorem tail_yes {l : List Int} {k : Nat} (h : k < l.length ∧ isE (l.getD k 48) = true) : vTail (l.drop k) = vExp1 (l.drop (k + 1)) := by
  rw [drop_cons l k h.1]; simp only [vTail]; rw [if_pos h.2]
theorem tail_no {l : List Int} {k : Nat} (hk : k ≤ l.length) (h : ¬ (k < l.length ∧ isE (l.getD k 48) = true)) : vTail (l.drop k) = decide (k = l.length) := by
  by_cases h0 : k < l.length
  · rw [drop_cons l k h0]; simp only [vTail]; rw [if_neg (fun x => h ⟨h0, x⟩)]
    exact (decide_eq_false (by omega)).symm
  · rw [drop_nil l k h0]; exact (decide_eq_true (by omega)).symm
theorem sgn_yes {l : List Int} {k : Nat} (h : k < l.length ∧ (l.getD k 48 = 43 ∨ l.getD k 48 = 45)) : vExp1 (l.drop k) = vExp2 (l.drop (k + 1)) := by
  rw [drop_cons l k h.1]; simp only [vExp1]; rw [if_pos h.2]
theorem sgn_no {l : List Int} {k : Nat} (h : ¬ (k < l.length ∧ (l.getD k 48 = 43 ∨ l.getD k 48 = 45))) : vExp1 (l.drop k) = vExp2 (l.drop k) := by
  by_cases h0 : k < l.length
  · rw [drop_cons l k h0]; simp only [vExp1]; rw [if_neg (fun x => h ⟨h0, x⟩)]
  · rw [drop_nil l k h0]; rfl
theorem exp2_none {l : List Int} {st : Nat} (h : firstDig (l.drop st) = false) : vExp2 (l.drop st) = false := by
  generalize l.drop st = r at *
  cases r with
  | nil => rfl
  | cons c r => simp only [firstDig] at h; simp [vExp2, dropDig, h]
theorem exp2_some {l : List Int} {st k : Nat} (hk : k ≤ l.length) (h : firstDig (l.drop st) = true) (hd : dropDig (l.drop st) = l.drop k) : vExp2 (l.drop st) = decide (k = l.length) := by
  have e : (l.drop st).isEmpty = false := by
    generalize l.drop st = r at *
    cases r with
    | nil => simp [firstDig] at h
    | cons c r => rfl
  unfold vExp2
  rw [e, hd]
  by_cases hkn : k = l.length
  · subst hkn; simp
  · rw [decide_eq_false hkn, drop_cons l k (by omega)]; rfl

end Go.Proofs.Qxb6000357a
