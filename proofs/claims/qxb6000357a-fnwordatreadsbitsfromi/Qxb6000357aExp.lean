import Derived.Test.Qxb6000357aRows
import Derived.WalkKit
import Derived.WalkLawsBesides
namespace Go.Proofs.Qxb6000357a
open Go.RowKit

/-- '0' <= c <= '9'. -/
def dig (c : Int) : Bool := decide (48 ≤ c ∧ c ≤ 57)
theorem dig_true {c : Int} (h : dig c = true) : 48 ≤ c ∧ c ≤ 57 := by simpa [dig] using h
theorem dig_false {c : Int} (h : dig c = false) : ¬ (48 ≤ c ∧ c ≤ 57) := by simpa [dig] using h

/-- the magnitude behind k digits from s on -/
def magOf (f : Nat → Int) (s : Nat) : Nat → Int
  | 0 => 0
  | k + 1 => if magOf f s k < 576460752303423488 then magOf f s k * 10 + (f (s + k) - 48) else magOf f s k
theorem magOf_lt (f : Nat → Int) (s k : Nat) (h : magOf f s k < 576460752303423488) : magOf f s (k + 1) = magOf f s k * 10 + (f (s + k) - 48) := by
  simp only [magOf]; rw [if_pos h]
theorem magOf_ge (f : Nat → Int) (s k : Nat) (h : ¬ magOf f s k < 576460752303423488) : magOf f s (k + 1) = magOf f s k := by
  simp only [magOf]; rw [if_neg h]
theorem magOf_bd (f : Nat → Int) (s k : Nat) (h : ∀ t, t < k → dig (f (s + t)) = true) : 0 ≤ magOf f s k ∧ magOf f s k < 9223372036854775808 := by
  induction k with
  | zero => simp [magOf]
  | succ k ih =>
    have ih' := ih (fun t ht => h t (by omega))
    have hd := dig_true (h k (by omega))
    by_cases hm : magOf f s k < 576460752303423488
    · rw [magOf_lt f s k hm]; omega
    · rw [magOf_ge f s k hm]; exact ih'

/-- where the digits may begin -/
def stOf (f : Nat → Int) (n : Nat) : Nat := if 1 < n ∧ (f 1 = 45 ∨ f 1 = 43) then 2 else 1
def ngOf (f : Nat → Int) (n : Nat) : Bool := decide (1 < n ∧ f 1 = 45)

theorem zzDigit_yes (c : Int) (w : World) (h : dig c = true) :
    Calls Try.prog 16 #[.int .u8 c] w fun e w' => e = .returned (.bool true) ∧ w' = w := by
  have h1 := (dig_true h).1
  have h2 := (dig_true h).2
  clear h
  go_enter Try.func16, Try.ntmps16
  go_wp2
  go_ret
  exact ⟨rfl, rfl⟩

theorem zzDigit_no (c : Int) (w : World) (h : dig c = false) :
    Calls Try.prog 16 #[.int .u8 c] w fun e w' => e = .returned (.bool false) ∧ w' = w := by
  have h1 := dig_false h
  clear h
  by_cases h2 : 48 ≤ c
  · have h3 : decide (c ≤ 57) = false := decide_eq_false (by omega)
    clear h1
    go_enter Try.func16, Try.ntmps16
    go_wp2
    go_ret
    exact ⟨rfl, rfl⟩
  · have h3 : decide (48 ≤ c) = false := decide_eq_false (by omega)
    clear h1 h2
    go_enter Try.func16, Try.ntmps16
    go_wp2
    go_ret
    exact ⟨rfl, rfl⟩

theorem zzDigit_any (c : Int) (w : World) :
    Calls Try.prog 16 #[.int .u8 c] w fun e w' => e = .returned (.bool (dig c)) ∧ w' = w := by
  cases h : dig c
  · exact zzDigit_no c w h
  · exact zzDigit_yes c w h


/-- the cells of a slice of bytes -/
def BytesAt (w : World) (a : Option Addr) (n : Nat) (f : Nat → Int) : Prop :=
  ∀ i, i < n → ∃ b off, a = some ⟨b, off, none⟩ ∧ w.cell? ⟨b, off + i, none⟩ = some (.int .u8 (f i)) ∧ 0 ≤ f i ∧ f i ≤ 255

theorem exp_short (a : Option Addr) (n cap : Nat) (w : World) (hn : n ≤ 1) :
    Calls Try.prog 26 #[.slice a n cap] w fun e w' => e = .returned (.tuple #[.int .u64 0, .bool false, .int .i64 0]) ∧ w' = w := by
  have hd : decide ((1 : Int) < (n : Int)) = false := decide_eq_false (by omega)
  go_enter Try.func26, Try.ntmps26
  go_wp2
  refine wp_loop_rounds 1 ?_
  rw [rounds_succ]
  go_wp2
  go_ret3
  exact ⟨rfl, rfl⟩

set_option maxHeartbeats 1000000 in
theorem exp_plain (b off n cap : Nat) (f : Nat → Int) (w : World) (hm : n ≤ 9223372036854775807) (hn : 1 < n)
    (hc : ∀ i, i < n → w.cell? ⟨b, off + i, none⟩ = some (.int .u8 (f i)) ∧ 0 ≤ f i ∧ f i ≤ 255) (h45 : f 1 ≠ 45) (h43 : f 1 ≠ 43) :
    Calls Try.prog 26 #[.slice (some ⟨b, off, none⟩) n cap] w fun e w' => (∃ k, (∀ t, t < k → 1 + t < n ∧ dig (f (1 + t)) = true) ∧ (1 + k < n → dig (f (1 + k)) = false) ∧
      e = .returned (.tuple (if k = 0 then #[.int .u64 0, .bool false, .int .i64 0] else #[.int .u64 (magOf f 1 k), .bool false, .int .i64 ((1 + k : Nat) : Int)]))) ∧ w' = w := by
  have h1i : (1 : Int) < (n : Int) := by omega
  have c1 := (hc 1 hn).1
  have e45 : (f 1 == 45) = false := beq_eq_false_iff_ne.2 h45
  have e43 : (f 1 == 43) = false := beq_eq_false_iff_ne.2 h43
  clear h45 h43
  have HC : Hid (∀ i, i < n → w.cell? ⟨b, off + i, none⟩ = some (.int .u8 (f i)) ∧ 0 ≤ f i ∧ f i ≤ 255) := hc
  clear hc
  go_enter Try.func26, Try.ntmps26
  go_wp2
  go_loop [2, 5] (fun m i => ∃ k : Nat, (1 + k ≤ n ∨ k = 0) ∧ i = .int .i64 ((1 + k : Nat) : Int) ∧ m = .int .u64 (magOf f 1 k) ∧ Hid (∀ t, t < k → 1 + t < n ∧ dig (f (1 + t)) = true)) (fun _ i => n - (intOf i).toNat)
  case atStart => exact ⟨0, .inr rfl, rfl, rfl, fun t ht => by omega⟩
  case round =>
    obtain ⟨k, hk, rfl, rfl, hrun⟩ := hrel
    have hbd := magOf_bd f 1 k (fun t ht => (hrun.out t ht).2)
    obtain ⟨hb1, hb2⟩ := hbd
    clear c1
    by_cases hlt : 1 + k < n
    · obtain ⟨ck, hf1, hf2⟩ := HC.out (1 + k) hlt
      have hki : ((1 + k : Nat) : Int) < (n : Int) := by omega
      cases hdg : dig (f (1 + k))
      · have HD : Hid (dig (f (1 + k)) = false) := hdg
        have hnd := dig_false hdg
        clear hdg
        by_cases h48 : 48 ≤ f (1 + k)
        · have h57 : decide (f (1 + k) ≤ 57) = false := decide_eq_false (by omega)
          clear hnd
          by_cases hk0 : k = 0
          · subst hk0
            go_wp2
            go_ret3
            exact ⟨⟨0, fun t ht => by omega, fun _ => HD.out, rfl⟩, rfl⟩
          · have hb : (((1 + k : Nat) : Int) == 1) = false := beq_eq_false_iff_ne.2 (by omega)
            go_wp2
            go_ret3
            exact ⟨⟨k, hrun.out, fun _ => HD.out, by rw [if_neg hk0]; rfl⟩, rfl⟩
        · have h57 : decide (48 ≤ f (1 + k)) = false := decide_eq_false h48
          clear hnd
          by_cases hk0 : k = 0
          · subst hk0
            go_wp2
            go_ret3
            exact ⟨⟨0, fun t ht => by omega, fun _ => HD.out, rfl⟩, rfl⟩
          · have hb : (((1 + k : Nat) : Int) == 1) = false := beq_eq_false_iff_ne.2 (by omega)
            go_wp2
            go_ret3
            exact ⟨⟨k, hrun.out, fun _ => HD.out, by rw [if_neg hk0]; rfl⟩, rfl⟩
      · have HD : Hid (dig (f (1 + k)) = true) := hdg
        have h48 := (dig_true hdg).1
        have h57 := (dig_true hdg).2
        clear hdg
        have hrun' : Hid (∀ t, t < k + 1 → 1 + t < n ∧ dig (f (1 + t)) = true) := fun t ht => by
          by_cases e : t = k
          · subst e; exact ⟨hlt, HD.out⟩
          · exact hrun.out t (by omega)
        by_cases hmg : magOf f 1 k < 576460752303423488
        · have HM : Hid (magOf f 1 (k + 1) = magOf f 1 k * 10 + (f (1 + k) - 48)) := magOf_lt f 1 k hmg
          go_wp2
          go_round
          case rel => exact ⟨k + 1, .inl (by omega), by go_num, by rw [HM.out], hrun'⟩
          case measure => simp [intOf]; omega
        · have HM : Hid (magOf f 1 (k + 1) = magOf f 1 k) := magOf_ge f 1 k hmg
          have hmd : decide (magOf f 1 k < 576460752303423488) = false := decide_eq_false hmg
          clear hmg
          go_wp2
          go_round
          case rel => exact ⟨k + 1, .inl (by omega), by go_num, by rw [HM.out], hrun'⟩
          case measure => simp [intOf]; omega
    · have hki : decide (((1 + k : Nat) : Int) < (n : Int)) = false := decide_eq_false (by omega)
      by_cases hk0 : k = 0
      · omega
      · have hb : (((1 + k : Nat) : Int) == 1) = false := beq_eq_false_iff_ne.2 (by omega)
        go_wp2
        go_ret3
        exact ⟨⟨k, hrun.out, fun h => absurd h hlt, by rw [if_neg hk0]; rfl⟩, rfl⟩

set_option maxHeartbeats 1000000 in
theorem exp_minus (b off n cap : Nat) (f : Nat → Int) (w : World) (hm : n ≤ 9223372036854775807) (hn : 1 < n)
    (hc : ∀ i, i < n → w.cell? ⟨b, off + i, none⟩ = some (.int .u8 (f i)) ∧ 0 ≤ f i ∧ f i ≤ 255) (h45 : f 1 = 45) :
    Calls Try.prog 26 #[.slice (some ⟨b, off, none⟩) n cap] w fun e w' => (∃ k, (∀ t, t < k → 2 + t < n ∧ dig (f (2 + t)) = true) ∧ (2 + k < n → dig (f (2 + k)) = false) ∧
      e = .returned (.tuple (if k = 0 then #[.int .u64 0, .bool false, .int .i64 0] else #[.int .u64 (magOf f 2 k), .bool true, .int .i64 ((2 + k : Nat) : Int)]))) ∧ w' = w := by
  have h1i : (1 : Int) < (n : Int) := by omega
  have c1 := (hc 1 hn).1
  rw [h45] at c1
  have HC : Hid (∀ i, i < n → w.cell? ⟨b, off + i, none⟩ = some (.int .u8 (f i)) ∧ 0 ≤ f i ∧ f i ≤ 255) := hc
  clear hc
  go_enter Try.func26, Try.ntmps26
  go_wp2
  go_loop [2, 5] (fun m i => ∃ k : Nat, (2 + k ≤ n ∨ k = 0) ∧ i = .int .i64 ((2 + k : Nat) : Int) ∧ m = .int .u64 (magOf f 2 k) ∧ Hid (∀ t, t < k → 2 + t < n ∧ dig (f (2 + t)) = true)) (fun _ i => n - (intOf i).toNat)
  case atStart => exact ⟨0, .inr rfl, rfl, rfl, fun t ht => by omega⟩
  case round =>
    obtain ⟨k, hk, rfl, rfl, hrun⟩ := hrel
    have hbd := magOf_bd f 2 k (fun t ht => (hrun.out t ht).2)
    obtain ⟨hb1, hb2⟩ := hbd
    clear c1
    by_cases hlt : 2 + k < n
    · obtain ⟨ck, hf1, hf2⟩ := HC.out (2 + k) hlt
      have hki : ((2 + k : Nat) : Int) < (n : Int) := by omega
      cases hdg : dig (f (2 + k))
      · have HD : Hid (dig (f (2 + k)) = false) := hdg
        have hnd := dig_false hdg
        clear hdg
        by_cases h48 : 48 ≤ f (2 + k)
        · have h57 : decide (f (2 + k) ≤ 57) = false := decide_eq_false (by omega)
          clear hnd
          by_cases hk0 : k = 0
          · subst hk0
            go_wp2
            go_ret3
            exact ⟨⟨0, fun t ht => by omega, fun _ => HD.out, rfl⟩, rfl⟩
          · have hb : (((2 + k : Nat) : Int) == 2) = false := beq_eq_false_iff_ne.2 (by omega)
            go_wp2
            go_ret3
            exact ⟨⟨k, hrun.out, fun _ => HD.out, by rw [if_neg hk0]; rfl⟩, rfl⟩
        · have h57 : decide (48 ≤ f (2 + k)) = false := decide_eq_false h48
          clear hnd
          by_cases hk0 : k = 0
          · subst hk0
            go_wp2
            go_ret3
            exact ⟨⟨0, fun t ht => by omega, fun _ => HD.out, rfl⟩, rfl⟩
          · have hb : (((2 + k : Nat) : Int) == 2) = false := beq_eq_false_iff_ne.2 (by omega)
            go_wp2
            go_ret3
            exact ⟨⟨k, hrun.out, fun _ => HD.out, by rw [if_neg hk0]; rfl⟩, rfl⟩
      · have HD : Hid (dig (f (2 + k)) = true) := hdg
        have h48 := (dig_true hdg).1
        have h57 := (dig_true hdg).2
        clear hdg
        have hrun' : Hid (∀ t, t < k + 1 → 2 + t < n ∧ dig (f (2 + t)) = true) := fun t ht => by
          by_cases e : t = k
          · subst e; exact ⟨hlt, HD.out⟩
          · exact hrun.out t (by omega)
        by_cases hmg : magOf f 2 k < 576460752303423488
        · have HM : Hid (magOf f 2 (k + 1) = magOf f 2 k * 10 + (f (2 + k) - 48)) := magOf_lt f 2 k hmg
          go_wp2
          go_round
          case rel => exact ⟨k + 1, .inl (by omega), by go_num, by rw [HM.out], hrun'⟩
          case measure => simp [intOf]; omega
        · have HM : Hid (magOf f 2 (k + 1) = magOf f 2 k) := magOf_ge f 2 k hmg
          have hmd : decide (magOf f 2 k < 576460752303423488) = false := decide_eq_false hmg
          clear hmg
          go_wp2
          go_round
          case rel => exact ⟨k + 1, .inl (by omega), by go_num, by rw [HM.out], hrun'⟩
          case measure => simp [intOf]; omega
    · have hki : decide (((2 + k : Nat) : Int) < (n : Int)) = false := decide_eq_false (by omega)
      by_cases hk0 : k = 0
      · subst hk0
        go_wp2
        go_ret3
        exact ⟨⟨0, fun t ht => by omega, fun h => absurd h hlt, rfl⟩, rfl⟩
      · have hb : (((2 + k : Nat) : Int) == 2) = false := beq_eq_false_iff_ne.2 (by omega)
        go_wp2
        go_ret3
        exact ⟨⟨k, hrun.out, fun h => absurd h hlt, by rw [if_neg hk0]; rfl⟩, rfl⟩

set_option maxHeartbeats 1000000 in
theorem exp_plus (b off n cap : Nat) (f : Nat → Int) (w : World) (hm : n ≤ 9223372036854775807) (hn : 1 < n)
    (hc : ∀ i, i < n → w.cell? ⟨b, off + i, none⟩ = some (.int .u8 (f i)) ∧ 0 ≤ f i ∧ f i ≤ 255) (h43 : f 1 = 43) :
    Calls Try.prog 26 #[.slice (some ⟨b, off, none⟩) n cap] w fun e w' => (∃ k, (∀ t, t < k → 2 + t < n ∧ dig (f (2 + t)) = true) ∧ (2 + k < n → dig (f (2 + k)) = false) ∧
      e = .returned (.tuple (if k = 0 then #[.int .u64 0, .bool false, .int .i64 0] else #[.int .u64 (magOf f 2 k), .bool false, .int .i64 ((2 + k : Nat) : Int)]))) ∧ w' = w := by
  have h1i : (1 : Int) < (n : Int) := by omega
  have c1 := (hc 1 hn).1
  rw [h43] at c1
  have HC : Hid (∀ i, i < n → w.cell? ⟨b, off + i, none⟩ = some (.int .u8 (f i)) ∧ 0 ≤ f i ∧ f i ≤ 255) := hc
  clear hc
  go_enter Try.func26, Try.ntmps26
  go_wp2
  go_loop [2, 5] (fun m i => ∃ k : Nat, (2 + k ≤ n ∨ k = 0) ∧ i = .int .i64 ((2 + k : Nat) : Int) ∧ m = .int .u64 (magOf f 2 k) ∧ Hid (∀ t, t < k → 2 + t < n ∧ dig (f (2 + t)) = true)) (fun _ i => n - (intOf i).toNat)
  case atStart => exact ⟨0, .inr rfl, rfl, rfl, fun t ht => by omega⟩
  case round =>
    obtain ⟨k, hk, rfl, rfl, hrun⟩ := hrel
    have hbd := magOf_bd f 2 k (fun t ht => (hrun.out t ht).2)
    obtain ⟨hb1, hb2⟩ := hbd
    clear c1
    by_cases hlt : 2 + k < n
    · obtain ⟨ck, hf1, hf2⟩ := HC.out (2 + k) hlt
      have hki : ((2 + k : Nat) : Int) < (n : Int) := by omega
      cases hdg : dig (f (2 + k))
      · have HD : Hid (dig (f (2 + k)) = false) := hdg
        have hnd := dig_false hdg
        clear hdg
        by_cases h48 : 48 ≤ f (2 + k)
        · have h57 : decide (f (2 + k) ≤ 57) = false := decide_eq_false (by omega)
          clear hnd
          by_cases hk0 : k = 0
          · subst hk0
            go_wp2
            go_ret3
            exact ⟨⟨0, fun t ht => by omega, fun _ => HD.out, rfl⟩, rfl⟩
          · have hb : (((2 + k : Nat) : Int) == 2) = false := beq_eq_false_iff_ne.2 (by omega)
            go_wp2
            go_ret3
            exact ⟨⟨k, hrun.out, fun _ => HD.out, by rw [if_neg hk0]; rfl⟩, rfl⟩
        · have h57 : decide (48 ≤ f (2 + k)) = false := decide_eq_false h48
          clear hnd
          by_cases hk0 : k = 0
          · subst hk0
            go_wp2
            go_ret3
            exact ⟨⟨0, fun t ht => by omega, fun _ => HD.out, rfl⟩, rfl⟩
          · have hb : (((2 + k : Nat) : Int) == 2) = false := beq_eq_false_iff_ne.2 (by omega)
            go_wp2
            go_ret3
            exact ⟨⟨k, hrun.out, fun _ => HD.out, by rw [if_neg hk0]; rfl⟩, rfl⟩
      · have HD : Hid (dig (f (2 + k)) = true) := hdg
        have h48 := (dig_true hdg).1
        have h57 := (dig_true hdg).2
        clear hdg
        have hrun' : Hid (∀ t, t < k + 1 → 2 + t < n ∧ dig (f (2 + t)) = true) := fun t ht => by
          by_cases e : t = k
          · subst e; exact ⟨hlt, HD.out⟩
          · exact hrun.out t (by omega)
        by_cases hmg : magOf f 2 k < 576460752303423488
        · have HM : Hid (magOf f 2 (k + 1) = magOf f 2 k * 10 + (f (2 + k) - 48)) := magOf_lt f 2 k hmg
          go_wp2
          go_round
          case rel => exact ⟨k + 1, .inl (by omega), by go_num, by rw [HM.out], hrun'⟩
          case measure => simp [intOf]; omega
        · have HM : Hid (magOf f 2 (k + 1) = magOf f 2 k) := magOf_ge f 2 k hmg
          have hmd : decide (magOf f 2 k < 576460752303423488) = false := decide_eq_false hmg
          clear hmg
          go_wp2
          go_round
          case rel => exact ⟨k + 1, .inl (by omega), by go_num, by rw [HM.out], hrun'⟩
          case measure => simp [intOf]; omega
    · have hki : decide (((2 + k : Nat) : Int) < (n : Int)) = false := decide_eq_false (by omega)
      by_cases hk0 : k = 0
      · subst hk0
        go_wp2
        go_ret3
        exact ⟨⟨0, fun t ht => by omega, fun h => absurd h hlt, rfl⟩, rfl⟩
      · have hb : (((2 + k : Nat) : Int) == 2) = false := beq_eq_false_iff_ne.2 (by omega)
        go_wp2
        go_ret3
        exact ⟨⟨k, hrun.out, fun h => absurd h hlt, by rw [if_neg hk0]; rfl⟩, rfl⟩

end Go.Proofs.Qxb6000357a
