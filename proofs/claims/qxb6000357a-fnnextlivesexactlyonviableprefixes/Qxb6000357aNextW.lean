import Derived.Test.Qxb6000357aNextP
namespace Go.Proofs.Qxb6000357a
open Go.RowKit
set_option linter.unusedSimpArgs false
set_option linter.unusedVariables false

/-- the classes of a byte -/
theorem classes (c : Int) : c = 45 ∨ c = 48 ∨ c = 46 ∨ c = 101 ∨ c = 69 ∨ c = 43 ∨ (49 ≤ c ∧ c ≤ 57) ∨ ((c ≠ 45 ∧ c ≠ 46 ∧ c ≠ 101 ∧ c ≠ 69 ∧ c ≠ 43) ∧ c < 48) ∨ ((c ≠ 45 ∧ c ≠ 46 ∧ c ≠ 101 ∧ c ≠ 69 ∧ c ≠ 43) ∧ 57 < c) := by omega

theorem next0 (c : Int) (w : World) (hc : 0 ≤ c ∧ c ≤ 255) :
    Calls Try.prog 12 #[.int .u8 0, .int .u8 c] w fun e w' => e = .returned (.int .u8 (nxt 0 c)) ∧ w' = w := by
  obtain ⟨hc1, hc2⟩ := hc
  rcases classes c with rfl | rfl | rfl | rfl | rfl | rfl | ⟨h1, h2⟩ | ⟨⟨h1, h2, h3, h4, h5⟩, h6⟩ | ⟨⟨h1, h2, h3, h4, h5⟩, h6⟩
  · have hn : nxt 0 45 = 1 := by decide
    rw [hn]
    clear hn
    go_enter Try.func12, Try.ntmps12
    go_wp2
    go_ret
    exact ⟨rfl, rfl⟩
  · have hn : nxt 0 48 = 2 := by decide
    rw [hn]
    clear hn
    go_enter Try.func12, Try.ntmps12
    go_wp2
    go_ret
    exact ⟨rfl, rfl⟩
  · have hn : nxt 0 46 = 9 := by decide
    rw [hn]
    clear hn
    go_enter Try.func12, Try.ntmps12
    go_wp2
    go_ret
    exact ⟨rfl, rfl⟩
  · have hn : nxt 0 101 = 9 := by decide
    rw [hn]
    clear hn
    go_enter Try.func12, Try.ntmps12
    go_wp2
    go_ret
    exact ⟨rfl, rfl⟩
  · have hn : nxt 0 69 = 9 := by decide
    rw [hn]
    clear hn
    go_enter Try.func12, Try.ntmps12
    go_wp2
    go_ret
    exact ⟨rfl, rfl⟩
  · have hn : nxt 0 43 = 9 := by decide
    rw [hn]
    clear hn
    go_enter Try.func12, Try.ntmps12
    go_wp2
    go_ret
    exact ⟨rfl, rfl⟩
  · have hn : nxt 0 c = 3 := by
      have e1 : dig c = true := by simp [dig]; omega
      have e2 : isE c = false := by simp [isE]; omega
      have e3 : c ≠ 45 := by omega
      have e4 : c ≠ 48 := by omega
      have e5 : c ≠ 46 := by omega
      have e6 : c ≠ 43 := by omega
      simp [nxt, e1, e2, e3, e4, e5, e6]
    rw [hn]
    clear hn
    have b1 : (c == 45) = false := beq_eq_false_iff_ne.2 (by omega)
    have b3 : (c == 101) = false := beq_eq_false_iff_ne.2 (by omega)
    have b4 : (c == 69) = false := beq_eq_false_iff_ne.2 (by omega)
    have b5 : (c == 43) = false := beq_eq_false_iff_ne.2 (by omega)
    go_enter Try.func12, Try.ntmps12
    go_wp2
    go_ret
    exact ⟨rfl, rfl⟩
  · have hn : nxt 0 c = 9 := by
      have e1 : dig c = false := by simp [dig]; omega
      have e2 : isE c = false := by simp [isE]; omega
      have e4 : c ≠ 48 := by omega
      simp [nxt, e1, e2, h1, h2, h5, e4]
    rw [hn]
    clear hn
    have b1 : (c == 45) = false := beq_eq_false_iff_ne.2 h1
    have b2 : (c == 46) = false := beq_eq_false_iff_ne.2 h2
    have b3 : (c == 101) = false := beq_eq_false_iff_ne.2 h3
    have b4 : (c == 69) = false := beq_eq_false_iff_ne.2 h4
    have b5 : (c == 43) = false := beq_eq_false_iff_ne.2 h5
    have b6 : (c == 48) = false := beq_eq_false_iff_ne.2 (by omega)
    have d1 : decide (48 ≤ c) = false := decide_eq_false (by omega)
    clear h1 h2 h3 h4 h5
    go_enter Try.func12, Try.ntmps12
    go_wp2
    go_ret
    exact ⟨rfl, rfl⟩
  · have hn : nxt 0 c = 9 := by
      have e1 : dig c = false := by simp [dig]; omega
      have e2 : isE c = false := by simp [isE]; omega
      have e4 : c ≠ 48 := by omega
      simp [nxt, e1, e2, h1, h2, h5, e4]
    rw [hn]
    clear hn
    have b1 : (c == 45) = false := beq_eq_false_iff_ne.2 h1
    have b2 : (c == 46) = false := beq_eq_false_iff_ne.2 h2
    have b3 : (c == 101) = false := beq_eq_false_iff_ne.2 h3
    have b4 : (c == 69) = false := beq_eq_false_iff_ne.2 h4
    have b5 : (c == 43) = false := beq_eq_false_iff_ne.2 h5
    have b6 : (c == 48) = false := beq_eq_false_iff_ne.2 (by omega)
    have d1 : decide (c ≤ 57) = false := decide_eq_false (by omega)
    clear h1 h2 h3 h4 h5
    go_enter Try.func12, Try.ntmps12
    go_wp2
    go_ret
    exact ⟨rfl, rfl⟩

theorem next1 (c : Int) (w : World) (hc : 0 ≤ c ∧ c ≤ 255) :
    Calls Try.prog 12 #[.int .u8 1, .int .u8 c] w fun e w' => e = .returned (.int .u8 (nxt 1 c)) ∧ w' = w := by
  obtain ⟨hc1, hc2⟩ := hc
  rcases classes c with rfl | rfl | rfl | rfl | rfl | rfl | ⟨h1, h2⟩ | ⟨⟨h1, h2, h3, h4, h5⟩, h6⟩ | ⟨⟨h1, h2, h3, h4, h5⟩, h6⟩
  · have hn : nxt 1 45 = 9 := by decide
    rw [hn]
    clear hn
    go_enter Try.func12, Try.ntmps12
    go_wp2
    go_ret
    exact ⟨rfl, rfl⟩
  · have hn : nxt 1 48 = 2 := by decide
    rw [hn]
    clear hn
    go_enter Try.func12, Try.ntmps12
    go_wp2
    go_ret
    exact ⟨rfl, rfl⟩
  · have hn : nxt 1 46 = 9 := by decide
    rw [hn]
    clear hn
    go_enter Try.func12, Try.ntmps12
    go_wp2
    go_ret
    exact ⟨rfl, rfl⟩
  · have hn : nxt 1 101 = 9 := by decide
    rw [hn]
    clear hn
    go_enter Try.func12, Try.ntmps12
    go_wp2
    go_ret
    exact ⟨rfl, rfl⟩
  · have hn : nxt 1 69 = 9 := by decide
    rw [hn]
    clear hn
    go_enter Try.func12, Try.ntmps12
    go_wp2
    go_ret
    exact ⟨rfl, rfl⟩
  · have hn : nxt 1 43 = 9 := by decide
    rw [hn]
    clear hn
    go_enter Try.func12, Try.ntmps12
    go_wp2
    go_ret
    exact ⟨rfl, rfl⟩
  · have hn : nxt 1 c = 3 := by
      have e1 : dig c = true := by simp [dig]; omega
      have e2 : isE c = false := by simp [isE]; omega
      have e3 : c ≠ 45 := by omega
      have e4 : c ≠ 48 := by omega
      have e5 : c ≠ 46 := by omega
      have e6 : c ≠ 43 := by omega
      simp [nxt, e1, e2, e3, e4, e5, e6]
    rw [hn]
    clear hn
    have b1 : (c == 45) = false := beq_eq_false_iff_ne.2 (by omega)
    have b3 : (c == 101) = false := beq_eq_false_iff_ne.2 (by omega)
    have b4 : (c == 69) = false := beq_eq_false_iff_ne.2 (by omega)
    have b5 : (c == 43) = false := beq_eq_false_iff_ne.2 (by omega)
    go_enter Try.func12, Try.ntmps12
    go_wp2
    go_ret
    exact ⟨rfl, rfl⟩
  · have hn : nxt 1 c = 9 := by
      have e1 : dig c = false := by simp [dig]; omega
      have e2 : isE c = false := by simp [isE]; omega
      have e4 : c ≠ 48 := by omega
      simp [nxt, e1, e2, h1, h2, h5, e4]
    rw [hn]
    clear hn
    have b1 : (c == 45) = false := beq_eq_false_iff_ne.2 h1
    have b2 : (c == 46) = false := beq_eq_false_iff_ne.2 h2
    have b3 : (c == 101) = false := beq_eq_false_iff_ne.2 h3
    have b4 : (c == 69) = false := beq_eq_false_iff_ne.2 h4
    have b5 : (c == 43) = false := beq_eq_false_iff_ne.2 h5
    have b6 : (c == 48) = false := beq_eq_false_iff_ne.2 (by omega)
    have d1 : decide (48 ≤ c) = false := decide_eq_false (by omega)
    clear h1 h2 h3 h4 h5
    go_enter Try.func12, Try.ntmps12
    go_wp2
    go_ret
    exact ⟨rfl, rfl⟩
  · have hn : nxt 1 c = 9 := by
      have e1 : dig c = false := by simp [dig]; omega
      have e2 : isE c = false := by simp [isE]; omega
      have e4 : c ≠ 48 := by omega
      simp [nxt, e1, e2, h1, h2, h5, e4]
    rw [hn]
    clear hn
    have b1 : (c == 45) = false := beq_eq_false_iff_ne.2 h1
    have b2 : (c == 46) = false := beq_eq_false_iff_ne.2 h2
    have b3 : (c == 101) = false := beq_eq_false_iff_ne.2 h3
    have b4 : (c == 69) = false := beq_eq_false_iff_ne.2 h4
    have b5 : (c == 43) = false := beq_eq_false_iff_ne.2 h5
    have b6 : (c == 48) = false := beq_eq_false_iff_ne.2 (by omega)
    have d1 : decide (c ≤ 57) = false := decide_eq_false (by omega)
    clear h1 h2 h3 h4 h5
    go_enter Try.func12, Try.ntmps12
    go_wp2
    go_ret
    exact ⟨rfl, rfl⟩

theorem next2 (c : Int) (w : World) (hc : 0 ≤ c ∧ c ≤ 255) :
    Calls Try.prog 12 #[.int .u8 2, .int .u8 c] w fun e w' => e = .returned (.int .u8 (nxt 2 c)) ∧ w' = w := by
  obtain ⟨hc1, hc2⟩ := hc
  rcases classes c with rfl | rfl | rfl | rfl | rfl | rfl | ⟨h1, h2⟩ | ⟨⟨h1, h2, h3, h4, h5⟩, h6⟩ | ⟨⟨h1, h2, h3, h4, h5⟩, h6⟩
  · have hn : nxt 2 45 = 9 := by decide
    rw [hn]
    clear hn
    go_enter Try.func12, Try.ntmps12
    go_wp2
    go_ret
    exact ⟨rfl, rfl⟩
  · have hn : nxt 2 48 = 9 := by decide
    rw [hn]
    clear hn
    go_enter Try.func12, Try.ntmps12
    go_wp2
    go_ret
    exact ⟨rfl, rfl⟩
  · have hn : nxt 2 46 = 4 := by decide
    rw [hn]
    clear hn
    go_enter Try.func12, Try.ntmps12
    go_wp2
    go_ret
    exact ⟨rfl, rfl⟩
  · have hn : nxt 2 101 = 6 := by decide
    rw [hn]
    clear hn
    go_enter Try.func12, Try.ntmps12
    go_wp2
    go_ret
    exact ⟨rfl, rfl⟩
  · have hn : nxt 2 69 = 6 := by decide
    rw [hn]
    clear hn
    go_enter Try.func12, Try.ntmps12
    go_wp2
    go_ret
    exact ⟨rfl, rfl⟩
  · have hn : nxt 2 43 = 9 := by decide
    rw [hn]
    clear hn
    go_enter Try.func12, Try.ntmps12
    go_wp2
    go_ret
    exact ⟨rfl, rfl⟩
  · have hn : nxt 2 c = 9 := by
      have e1 : dig c = true := by simp [dig]; omega
      have e2 : isE c = false := by simp [isE]; omega
      have e3 : c ≠ 45 := by omega
      have e4 : c ≠ 48 := by omega
      have e5 : c ≠ 46 := by omega
      have e6 : c ≠ 43 := by omega
      simp [nxt, e1, e2, e3, e4, e5, e6]
    rw [hn]
    clear hn
    have b1 : (c == 45) = false := beq_eq_false_iff_ne.2 (by omega)
    have b3 : (c == 101) = false := beq_eq_false_iff_ne.2 (by omega)
    have b4 : (c == 69) = false := beq_eq_false_iff_ne.2 (by omega)
    have b5 : (c == 43) = false := beq_eq_false_iff_ne.2 (by omega)
    go_enter Try.func12, Try.ntmps12
    go_wp2
    go_ret
    exact ⟨rfl, rfl⟩
  · have hn : nxt 2 c = 9 := by
      have e1 : dig c = false := by simp [dig]; omega
      have e2 : isE c = false := by simp [isE]; omega
      have e4 : c ≠ 48 := by omega
      simp [nxt, e1, e2, h1, h2, h5, e4]
    rw [hn]
    clear hn
    have b1 : (c == 45) = false := beq_eq_false_iff_ne.2 h1
    have b2 : (c == 46) = false := beq_eq_false_iff_ne.2 h2
    have b3 : (c == 101) = false := beq_eq_false_iff_ne.2 h3
    have b4 : (c == 69) = false := beq_eq_false_iff_ne.2 h4
    have b5 : (c == 43) = false := beq_eq_false_iff_ne.2 h5
    have b6 : (c == 48) = false := beq_eq_false_iff_ne.2 (by omega)
    have d1 : decide (48 ≤ c) = false := decide_eq_false (by omega)
    clear h1 h2 h3 h4 h5
    go_enter Try.func12, Try.ntmps12
    go_wp2
    go_ret
    exact ⟨rfl, rfl⟩
  · have hn : nxt 2 c = 9 := by
      have e1 : dig c = false := by simp [dig]; omega
      have e2 : isE c = false := by simp [isE]; omega
      have e4 : c ≠ 48 := by omega
      simp [nxt, e1, e2, h1, h2, h5, e4]
    rw [hn]
    clear hn
    have b1 : (c == 45) = false := beq_eq_false_iff_ne.2 h1
    have b2 : (c == 46) = false := beq_eq_false_iff_ne.2 h2
    have b3 : (c == 101) = false := beq_eq_false_iff_ne.2 h3
    have b4 : (c == 69) = false := beq_eq_false_iff_ne.2 h4
    have b5 : (c == 43) = false := beq_eq_false_iff_ne.2 h5
    have b6 : (c == 48) = false := beq_eq_false_iff_ne.2 (by omega)
    have d1 : decide (c ≤ 57) = false := decide_eq_false (by omega)
    clear h1 h2 h3 h4 h5
    go_enter Try.func12, Try.ntmps12
    go_wp2
    go_ret
    exact ⟨rfl, rfl⟩

theorem next3 (c : Int) (w : World) (hc : 0 ≤ c ∧ c ≤ 255) :
    Calls Try.prog 12 #[.int .u8 3, .int .u8 c] w fun e w' => e = .returned (.int .u8 (nxt 3 c)) ∧ w' = w := by
  obtain ⟨hc1, hc2⟩ := hc
  rcases classes c with rfl | rfl | rfl | rfl | rfl | rfl | ⟨h1, h2⟩ | ⟨⟨h1, h2, h3, h4, h5⟩, h6⟩ | ⟨⟨h1, h2, h3, h4, h5⟩, h6⟩
  · have hn : nxt 3 45 = 9 := by decide
    rw [hn]
    clear hn
    go_enter Try.func12, Try.ntmps12
    go_wp2
    go_ret
    exact ⟨rfl, rfl⟩
  · have hn : nxt 3 48 = 3 := by decide
    rw [hn]
    clear hn
    go_enter Try.func12, Try.ntmps12
    go_wp2
    go_ret
    exact ⟨rfl, rfl⟩
  · have hn : nxt 3 46 = 4 := by decide
    rw [hn]
    clear hn
    go_enter Try.func12, Try.ntmps12
    go_wp2
    go_ret
    exact ⟨rfl, rfl⟩
  · have hn : nxt 3 101 = 6 := by decide
    rw [hn]
    clear hn
    go_enter Try.func12, Try.ntmps12
    go_wp2
    go_ret
    exact ⟨rfl, rfl⟩
  · have hn : nxt 3 69 = 6 := by decide
    rw [hn]
    clear hn
    go_enter Try.func12, Try.ntmps12
    go_wp2
    go_ret
    exact ⟨rfl, rfl⟩
  · have hn : nxt 3 43 = 9 := by decide
    rw [hn]
    clear hn
    go_enter Try.func12, Try.ntmps12
    go_wp2
    go_ret
    exact ⟨rfl, rfl⟩
  · have hn : nxt 3 c = 3 := by
      have e1 : dig c = true := by simp [dig]; omega
      have e2 : isE c = false := by simp [isE]; omega
      have e3 : c ≠ 45 := by omega
      have e4 : c ≠ 48 := by omega
      have e5 : c ≠ 46 := by omega
      have e6 : c ≠ 43 := by omega
      simp [nxt, e1, e2, e3, e4, e5, e6]
    rw [hn]
    clear hn
    have b1 : (c == 45) = false := beq_eq_false_iff_ne.2 (by omega)
    have b3 : (c == 101) = false := beq_eq_false_iff_ne.2 (by omega)
    have b4 : (c == 69) = false := beq_eq_false_iff_ne.2 (by omega)
    have b5 : (c == 43) = false := beq_eq_false_iff_ne.2 (by omega)
    go_enter Try.func12, Try.ntmps12
    go_wp2
    go_ret
    exact ⟨rfl, rfl⟩
  · have hn : nxt 3 c = 9 := by
      have e1 : dig c = false := by simp [dig]; omega
      have e2 : isE c = false := by simp [isE]; omega
      have e4 : c ≠ 48 := by omega
      simp [nxt, e1, e2, h1, h2, h5, e4]
    rw [hn]
    clear hn
    have b1 : (c == 45) = false := beq_eq_false_iff_ne.2 h1
    have b2 : (c == 46) = false := beq_eq_false_iff_ne.2 h2
    have b3 : (c == 101) = false := beq_eq_false_iff_ne.2 h3
    have b4 : (c == 69) = false := beq_eq_false_iff_ne.2 h4
    have b5 : (c == 43) = false := beq_eq_false_iff_ne.2 h5
    have b6 : (c == 48) = false := beq_eq_false_iff_ne.2 (by omega)
    have d1 : decide (48 ≤ c) = false := decide_eq_false (by omega)
    clear h1 h2 h3 h4 h5
    go_enter Try.func12, Try.ntmps12
    go_wp2
    go_ret
    exact ⟨rfl, rfl⟩
  · have hn : nxt 3 c = 9 := by
      have e1 : dig c = false := by simp [dig]; omega
      have e2 : isE c = false := by simp [isE]; omega
      have e4 : c ≠ 48 := by omega
      simp [nxt, e1, e2, h1, h2, h5, e4]
    rw [hn]
    clear hn
    have b1 : (c == 45) = false := beq_eq_false_iff_ne.2 h1
    have b2 : (c == 46) = false := beq_eq_false_iff_ne.2 h2
    have b3 : (c == 101) = false := beq_eq_false_iff_ne.2 h3
    have b4 : (c == 69) = false := beq_eq_false_iff_ne.2 h4
    have b5 : (c == 43) = false := beq_eq_false_iff_ne.2 h5
    have b6 : (c == 48) = false := beq_eq_false_iff_ne.2 (by omega)
    have d1 : decide (c ≤ 57) = false := decide_eq_false (by omega)
    clear h1 h2 h3 h4 h5
    go_enter Try.func12, Try.ntmps12
    go_wp2
    go_ret
    exact ⟨rfl, rfl⟩

theorem next4 (c : Int) (w : World) (hc : 0 ≤ c ∧ c ≤ 255) :
    Calls Try.prog 12 #[.int .u8 4, .int .u8 c] w fun e w' => e = .returned (.int .u8 (nxt 4 c)) ∧ w' = w := by
  obtain ⟨hc1, hc2⟩ := hc
  rcases classes c with rfl | rfl | rfl | rfl | rfl | rfl | ⟨h1, h2⟩ | ⟨⟨h1, h2, h3, h4, h5⟩, h6⟩ | ⟨⟨h1, h2, h3, h4, h5⟩, h6⟩
  · have hn : nxt 4 45 = 9 := by decide
    rw [hn]
    clear hn
    go_enter Try.func12, Try.ntmps12
    go_wp2
    go_ret
    exact ⟨rfl, rfl⟩
  · have hn : nxt 4 48 = 5 := by decide
    rw [hn]
    clear hn
    go_enter Try.func12, Try.ntmps12
    go_wp2
    go_ret
    exact ⟨rfl, rfl⟩
  · have hn : nxt 4 46 = 9 := by decide
    rw [hn]
    clear hn
    go_enter Try.func12, Try.ntmps12
    go_wp2
    go_ret
    exact ⟨rfl, rfl⟩
  · have hn : nxt 4 101 = 9 := by decide
    rw [hn]
    clear hn
    go_enter Try.func12, Try.ntmps12
    go_wp2
    go_ret
    exact ⟨rfl, rfl⟩
  · have hn : nxt 4 69 = 9 := by decide
    rw [hn]
    clear hn
    go_enter Try.func12, Try.ntmps12
    go_wp2
    go_ret
    exact ⟨rfl, rfl⟩
  · have hn : nxt 4 43 = 9 := by decide
    rw [hn]
    clear hn
    go_enter Try.func12, Try.ntmps12
    go_wp2
    go_ret
    exact ⟨rfl, rfl⟩
  · have hn : nxt 4 c = 5 := by
      have e1 : dig c = true := by simp [dig]; omega
      have e2 : isE c = false := by simp [isE]; omega
      have e3 : c ≠ 45 := by omega
      have e4 : c ≠ 48 := by omega
      have e5 : c ≠ 46 := by omega
      have e6 : c ≠ 43 := by omega
      simp [nxt, e1, e2, e3, e4, e5, e6]
    rw [hn]
    clear hn
    have b1 : (c == 45) = false := beq_eq_false_iff_ne.2 (by omega)
    have b3 : (c == 101) = false := beq_eq_false_iff_ne.2 (by omega)
    have b4 : (c == 69) = false := beq_eq_false_iff_ne.2 (by omega)
    have b5 : (c == 43) = false := beq_eq_false_iff_ne.2 (by omega)
    go_enter Try.func12, Try.ntmps12
    go_wp2
    go_ret
    exact ⟨rfl, rfl⟩
  · have hn : nxt 4 c = 9 := by
      have e1 : dig c = false := by simp [dig]; omega
      have e2 : isE c = false := by simp [isE]; omega
      have e4 : c ≠ 48 := by omega
      simp [nxt, e1, e2, h1, h2, h5, e4]
    rw [hn]
    clear hn
    have b1 : (c == 45) = false := beq_eq_false_iff_ne.2 h1
    have b2 : (c == 46) = false := beq_eq_false_iff_ne.2 h2
    have b3 : (c == 101) = false := beq_eq_false_iff_ne.2 h3
    have b4 : (c == 69) = false := beq_eq_false_iff_ne.2 h4
    have b5 : (c == 43) = false := beq_eq_false_iff_ne.2 h5
    have b6 : (c == 48) = false := beq_eq_false_iff_ne.2 (by omega)
    have d1 : decide (48 ≤ c) = false := decide_eq_false (by omega)
    clear h1 h2 h3 h4 h5
    go_enter Try.func12, Try.ntmps12
    go_wp2
    go_ret
    exact ⟨rfl, rfl⟩
  · have hn : nxt 4 c = 9 := by
      have e1 : dig c = false := by simp [dig]; omega
      have e2 : isE c = false := by simp [isE]; omega
      have e4 : c ≠ 48 := by omega
      simp [nxt, e1, e2, h1, h2, h5, e4]
    rw [hn]
    clear hn
    have b1 : (c == 45) = false := beq_eq_false_iff_ne.2 h1
    have b2 : (c == 46) = false := beq_eq_false_iff_ne.2 h2
    have b3 : (c == 101) = false := beq_eq_false_iff_ne.2 h3
    have b4 : (c == 69) = false := beq_eq_false_iff_ne.2 h4
    have b5 : (c == 43) = false := beq_eq_false_iff_ne.2 h5
    have b6 : (c == 48) = false := beq_eq_false_iff_ne.2 (by omega)
    have d1 : decide (c ≤ 57) = false := decide_eq_false (by omega)
    clear h1 h2 h3 h4 h5
    go_enter Try.func12, Try.ntmps12
    go_wp2
    go_ret
    exact ⟨rfl, rfl⟩

theorem next5 (c : Int) (w : World) (hc : 0 ≤ c ∧ c ≤ 255) :
    Calls Try.prog 12 #[.int .u8 5, .int .u8 c] w fun e w' => e = .returned (.int .u8 (nxt 5 c)) ∧ w' = w := by
  obtain ⟨hc1, hc2⟩ := hc
  rcases classes c with rfl | rfl | rfl | rfl | rfl | rfl | ⟨h1, h2⟩ | ⟨⟨h1, h2, h3, h4, h5⟩, h6⟩ | ⟨⟨h1, h2, h3, h4, h5⟩, h6⟩
  · have hn : nxt 5 45 = 9 := by decide
    rw [hn]
    clear hn
    go_enter Try.func12, Try.ntmps12
    go_wp2
    go_ret
    exact ⟨rfl, rfl⟩
  · have hn : nxt 5 48 = 5 := by decide
    rw [hn]
    clear hn
    go_enter Try.func12, Try.ntmps12
    go_wp2
    go_ret
    exact ⟨rfl, rfl⟩
  · have hn : nxt 5 46 = 9 := by decide
    rw [hn]
    clear hn
    go_enter Try.func12, Try.ntmps12
    go_wp2
    go_ret
    exact ⟨rfl, rfl⟩
  · have hn : nxt 5 101 = 6 := by decide
    rw [hn]
    clear hn
    go_enter Try.func12, Try.ntmps12
    go_wp2
    go_ret
    exact ⟨rfl, rfl⟩
  · have hn : nxt 5 69 = 6 := by decide
    rw [hn]
    clear hn
    go_enter Try.func12, Try.ntmps12
    go_wp2
    go_ret
    exact ⟨rfl, rfl⟩
  · have hn : nxt 5 43 = 9 := by decide
    rw [hn]
    clear hn
    go_enter Try.func12, Try.ntmps12
    go_wp2
    go_ret
    exact ⟨rfl, rfl⟩
  · have hn : nxt 5 c = 5 := by
      have e1 : dig c = true := by simp [dig]; omega
      have e2 : isE c = false := by simp [isE]; omega
      have e3 : c ≠ 45 := by omega
      have e4 : c ≠ 48 := by omega
      have e5 : c ≠ 46 := by omega
      have e6 : c ≠ 43 := by omega
      simp [nxt, e1, e2, e3, e4, e5, e6]
    rw [hn]
    clear hn
    have b1 : (c == 45) = false := beq_eq_false_iff_ne.2 (by omega)
    have b3 : (c == 101) = false := beq_eq_false_iff_ne.2 (by omega)
    have b4 : (c == 69) = false := beq_eq_false_iff_ne.2 (by omega)
    have b5 : (c == 43) = false := beq_eq_false_iff_ne.2 (by omega)
    go_enter Try.func12, Try.ntmps12
    go_wp2
    go_ret
    exact ⟨rfl, rfl⟩
  · have hn : nxt 5 c = 9 := by
      have e1 : dig c = false := by simp [dig]; omega
      have e2 : isE c = false := by simp [isE]; omega
      have e4 : c ≠ 48 := by omega
      simp [nxt, e1, e2, h1, h2, h5, e4]
    rw [hn]
    clear hn
    have b1 : (c == 45) = false := beq_eq_false_iff_ne.2 h1
    have b2 : (c == 46) = false := beq_eq_false_iff_ne.2 h2
    have b3 : (c == 101) = false := beq_eq_false_iff_ne.2 h3
    have b4 : (c == 69) = false := beq_eq_false_iff_ne.2 h4
    have b5 : (c == 43) = false := beq_eq_false_iff_ne.2 h5
    have b6 : (c == 48) = false := beq_eq_false_iff_ne.2 (by omega)
    have d1 : decide (48 ≤ c) = false := decide_eq_false (by omega)
    clear h1 h2 h3 h4 h5
    go_enter Try.func12, Try.ntmps12
    go_wp2
    go_ret
    exact ⟨rfl, rfl⟩
  · have hn : nxt 5 c = 9 := by
      have e1 : dig c = false := by simp [dig]; omega
      have e2 : isE c = false := by simp [isE]; omega
      have e4 : c ≠ 48 := by omega
      simp [nxt, e1, e2, h1, h2, h5, e4]
    rw [hn]
    clear hn
    have b1 : (c == 45) = false := beq_eq_false_iff_ne.2 h1
    have b2 : (c == 46) = false := beq_eq_false_iff_ne.2 h2
    have b3 : (c == 101) = false := beq_eq_false_iff_ne.2 h3
    have b4 : (c == 69) = false := beq_eq_false_iff_ne.2 h4
    have b5 : (c == 43) = false := beq_eq_false_iff_ne.2 h5
    have b6 : (c == 48) = false := beq_eq_false_iff_ne.2 (by omega)
    have d1 : decide (c ≤ 57) = false := decide_eq_false (by omega)
    clear h1 h2 h3 h4 h5
    go_enter Try.func12, Try.ntmps12
    go_wp2
    go_ret
    exact ⟨rfl, rfl⟩

theorem next6 (c : Int) (w : World) (hc : 0 ≤ c ∧ c ≤ 255) :
    Calls Try.prog 12 #[.int .u8 6, .int .u8 c] w fun e w' => e = .returned (.int .u8 (nxt 6 c)) ∧ w' = w := by
  obtain ⟨hc1, hc2⟩ := hc
  rcases classes c with rfl | rfl | rfl | rfl | rfl | rfl | ⟨h1, h2⟩ | ⟨⟨h1, h2, h3, h4, h5⟩, h6⟩ | ⟨⟨h1, h2, h3, h4, h5⟩, h6⟩
  · have hn : nxt 6 45 = 7 := by decide
    rw [hn]
    clear hn
    go_enter Try.func12, Try.ntmps12
    go_wp2
    go_ret
    exact ⟨rfl, rfl⟩
  · have hn : nxt 6 48 = 8 := by decide
    rw [hn]
    clear hn
    go_enter Try.func12, Try.ntmps12
    go_wp2
    go_ret
    exact ⟨rfl, rfl⟩
  · have hn : nxt 6 46 = 9 := by decide
    rw [hn]
    clear hn
    go_enter Try.func12, Try.ntmps12
    go_wp2
    go_ret
    exact ⟨rfl, rfl⟩
  · have hn : nxt 6 101 = 9 := by decide
    rw [hn]
    clear hn
    go_enter Try.func12, Try.ntmps12
    go_wp2
    go_ret
    exact ⟨rfl, rfl⟩
  · have hn : nxt 6 69 = 9 := by decide
    rw [hn]
    clear hn
    go_enter Try.func12, Try.ntmps12
    go_wp2
    go_ret
    exact ⟨rfl, rfl⟩
  · have hn : nxt 6 43 = 7 := by decide
    rw [hn]
    clear hn
    go_enter Try.func12, Try.ntmps12
    go_wp2
    go_ret
    exact ⟨rfl, rfl⟩
  · have hn : nxt 6 c = 8 := by
      have e1 : dig c = true := by simp [dig]; omega
      have e2 : isE c = false := by simp [isE]; omega
      have e3 : c ≠ 45 := by omega
      have e4 : c ≠ 48 := by omega
      have e5 : c ≠ 46 := by omega
      have e6 : c ≠ 43 := by omega
      simp [nxt, e1, e2, e3, e4, e5, e6]
    rw [hn]
    clear hn
    have b1 : (c == 45) = false := beq_eq_false_iff_ne.2 (by omega)
    have b3 : (c == 101) = false := beq_eq_false_iff_ne.2 (by omega)
    have b4 : (c == 69) = false := beq_eq_false_iff_ne.2 (by omega)
    have b5 : (c == 43) = false := beq_eq_false_iff_ne.2 (by omega)
    go_enter Try.func12, Try.ntmps12
    go_wp2
    go_ret
    exact ⟨rfl, rfl⟩
  · have hn : nxt 6 c = 9 := by
      have e1 : dig c = false := by simp [dig]; omega
      have e2 : isE c = false := by simp [isE]; omega
      have e4 : c ≠ 48 := by omega
      simp [nxt, e1, e2, h1, h2, h5, e4]
    rw [hn]
    clear hn
    have b1 : (c == 45) = false := beq_eq_false_iff_ne.2 h1
    have b2 : (c == 46) = false := beq_eq_false_iff_ne.2 h2
    have b3 : (c == 101) = false := beq_eq_false_iff_ne.2 h3
    have b4 : (c == 69) = false := beq_eq_false_iff_ne.2 h4
    have b5 : (c == 43) = false := beq_eq_false_iff_ne.2 h5
    have b6 : (c == 48) = false := beq_eq_false_iff_ne.2 (by omega)
    have d1 : decide (48 ≤ c) = false := decide_eq_false (by omega)
    clear h1 h2 h3 h4 h5
    go_enter Try.func12, Try.ntmps12
    go_wp2
    go_ret
    exact ⟨rfl, rfl⟩
  · have hn : nxt 6 c = 9 := by
      have e1 : dig c = false := by simp [dig]; omega
      have e2 : isE c = false := by simp [isE]; omega
      have e4 : c ≠ 48 := by omega
      simp [nxt, e1, e2, h1, h2, h5, e4]
    rw [hn]
    clear hn
    have b1 : (c == 45) = false := beq_eq_false_iff_ne.2 h1
    have b2 : (c == 46) = false := beq_eq_false_iff_ne.2 h2
    have b3 : (c == 101) = false := beq_eq_false_iff_ne.2 h3
    have b4 : (c == 69) = false := beq_eq_false_iff_ne.2 h4
    have b5 : (c == 43) = false := beq_eq_false_iff_ne.2 h5
    have b6 : (c == 48) = false := beq_eq_false_iff_ne.2 (by omega)
    have d1 : decide (c ≤ 57) = false := decide_eq_false (by omega)
    clear h1 h2 h3 h4 h5
    go_enter Try.func12, Try.ntmps12
    go_wp2
    go_ret
    exact ⟨rfl, rfl⟩

theorem next7 (c : Int) (w : World) (hc : 0 ≤ c ∧ c ≤ 255) :
    Calls Try.prog 12 #[.int .u8 7, .int .u8 c] w fun e w' => e = .returned (.int .u8 (nxt 7 c)) ∧ w' = w := by
  obtain ⟨hc1, hc2⟩ := hc
  rcases classes c with rfl | rfl | rfl | rfl | rfl | rfl | ⟨h1, h2⟩ | ⟨⟨h1, h2, h3, h4, h5⟩, h6⟩ | ⟨⟨h1, h2, h3, h4, h5⟩, h6⟩
  · have hn : nxt 7 45 = 9 := by decide
    rw [hn]
    clear hn
    go_enter Try.func12, Try.ntmps12
    go_wp2
    go_ret
    exact ⟨rfl, rfl⟩
  · have hn : nxt 7 48 = 8 := by decide
    rw [hn]
    clear hn
    go_enter Try.func12, Try.ntmps12
    go_wp2
    go_ret
    exact ⟨rfl, rfl⟩
  · have hn : nxt 7 46 = 9 := by decide
    rw [hn]
    clear hn
    go_enter Try.func12, Try.ntmps12
    go_wp2
    go_ret
    exact ⟨rfl, rfl⟩
  · have hn : nxt 7 101 = 9 := by decide
    rw [hn]
    clear hn
    go_enter Try.func12, Try.ntmps12
    go_wp2
    go_ret
    exact ⟨rfl, rfl⟩
  · have hn : nxt 7 69 = 9 := by decide
    rw [hn]
    clear hn
    go_enter Try.func12, Try.ntmps12
    go_wp2
    go_ret
    exact ⟨rfl, rfl⟩
  · have hn : nxt 7 43 = 9 := by decide
    rw [hn]
    clear hn
    go_enter Try.func12, Try.ntmps12
    go_wp2
    go_ret
    exact ⟨rfl, rfl⟩
  · have hn : nxt 7 c = 8 := by
      have e1 : dig c = true := by simp [dig]; omega
      have e2 : isE c = false := by simp [isE]; omega
      have e3 : c ≠ 45 := by omega
      have e4 : c ≠ 48 := by omega
      have e5 : c ≠ 46 := by omega
      have e6 : c ≠ 43 := by omega
      simp [nxt, e1, e2, e3, e4, e5, e6]
    rw [hn]
    clear hn
    have b1 : (c == 45) = false := beq_eq_false_iff_ne.2 (by omega)
    have b3 : (c == 101) = false := beq_eq_false_iff_ne.2 (by omega)
    have b4 : (c == 69) = false := beq_eq_false_iff_ne.2 (by omega)
    have b5 : (c == 43) = false := beq_eq_false_iff_ne.2 (by omega)
    go_enter Try.func12, Try.ntmps12
    go_wp2
    go_ret
    exact ⟨rfl, rfl⟩
  · have hn : nxt 7 c = 9 := by
      have e1 : dig c = false := by simp [dig]; omega
      have e2 : isE c = false := by simp [isE]; omega
      have e4 : c ≠ 48 := by omega
      simp [nxt, e1, e2, h1, h2, h5, e4]
    rw [hn]
    clear hn
    have b1 : (c == 45) = false := beq_eq_false_iff_ne.2 h1
    have b2 : (c == 46) = false := beq_eq_false_iff_ne.2 h2
    have b3 : (c == 101) = false := beq_eq_false_iff_ne.2 h3
    have b4 : (c == 69) = false := beq_eq_false_iff_ne.2 h4
    have b5 : (c == 43) = false := beq_eq_false_iff_ne.2 h5
    have b6 : (c == 48) = false := beq_eq_false_iff_ne.2 (by omega)
    have d1 : decide (48 ≤ c) = false := decide_eq_false (by omega)
    clear h1 h2 h3 h4 h5
    go_enter Try.func12, Try.ntmps12
    go_wp2
    go_ret
    exact ⟨rfl, rfl⟩
  · have hn : nxt 7 c = 9 := by
      have e1 : dig c = false := by simp [dig]; omega
      have e2 : isE c = false := by simp [isE]; omega
      have e4 : c ≠ 48 := by omega
      simp [nxt, e1, e2, h1, h2, h5, e4]
    rw [hn]
    clear hn
    have b1 : (c == 45) = false := beq_eq_false_iff_ne.2 h1
    have b2 : (c == 46) = false := beq_eq_false_iff_ne.2 h2
    have b3 : (c == 101) = false := beq_eq_false_iff_ne.2 h3
    have b4 : (c == 69) = false := beq_eq_false_iff_ne.2 h4
    have b5 : (c == 43) = false := beq_eq_false_iff_ne.2 h5
    have b6 : (c == 48) = false := beq_eq_false_iff_ne.2 (by omega)
    have d1 : decide (c ≤ 57) = false := decide_eq_false (by omega)
    clear h1 h2 h3 h4 h5
    go_enter Try.func12, Try.ntmps12
    go_wp2
    go_ret
    exact ⟨rfl, rfl⟩

theorem next8 (c : Int) (w : World) (hc : 0 ≤ c ∧ c ≤ 255) :
    Calls Try.prog 12 #[.int .u8 8, .int .u8 c] w fun e w' => e = .returned (.int .u8 (nxt 8 c)) ∧ w' = w := by
  obtain ⟨hc1, hc2⟩ := hc
  rcases classes c with rfl | rfl | rfl | rfl | rfl | rfl | ⟨h1, h2⟩ | ⟨⟨h1, h2, h3, h4, h5⟩, h6⟩ | ⟨⟨h1, h2, h3, h4, h5⟩, h6⟩
  · have hn : nxt 8 45 = 9 := by decide
    rw [hn]
    clear hn
    go_enter Try.func12, Try.ntmps12
    go_wp2
    go_ret
    exact ⟨rfl, rfl⟩
  · have hn : nxt 8 48 = 8 := by decide
    rw [hn]
    clear hn
    go_enter Try.func12, Try.ntmps12
    go_wp2
    go_ret
    exact ⟨rfl, rfl⟩
  · have hn : nxt 8 46 = 9 := by decide
    rw [hn]
    clear hn
    go_enter Try.func12, Try.ntmps12
    go_wp2
    go_ret
    exact ⟨rfl, rfl⟩
  · have hn : nxt 8 101 = 9 := by decide
    rw [hn]
    clear hn
    go_enter Try.func12, Try.ntmps12
    go_wp2
    go_ret
    exact ⟨rfl, rfl⟩
  · have hn : nxt 8 69 = 9 := by decide
    rw [hn]
    clear hn
    go_enter Try.func12, Try.ntmps12
    go_wp2
    go_ret
    exact ⟨rfl, rfl⟩
  · have hn : nxt 8 43 = 9 := by decide
    rw [hn]
    clear hn
    go_enter Try.func12, Try.ntmps12
    go_wp2
    go_ret
    exact ⟨rfl, rfl⟩
  · have hn : nxt 8 c = 8 := by
      have e1 : dig c = true := by simp [dig]; omega
      have e2 : isE c = false := by simp [isE]; omega
      have e3 : c ≠ 45 := by omega
      have e4 : c ≠ 48 := by omega
      have e5 : c ≠ 46 := by omega
      have e6 : c ≠ 43 := by omega
      simp [nxt, e1, e2, e3, e4, e5, e6]
    rw [hn]
    clear hn
    have b1 : (c == 45) = false := beq_eq_false_iff_ne.2 (by omega)
    have b3 : (c == 101) = false := beq_eq_false_iff_ne.2 (by omega)
    have b4 : (c == 69) = false := beq_eq_false_iff_ne.2 (by omega)
    have b5 : (c == 43) = false := beq_eq_false_iff_ne.2 (by omega)
    go_enter Try.func12, Try.ntmps12
    go_wp2
    go_ret
    exact ⟨rfl, rfl⟩
  · have hn : nxt 8 c = 9 := by
      have e1 : dig c = false := by simp [dig]; omega
      have e2 : isE c = false := by simp [isE]; omega
      have e4 : c ≠ 48 := by omega
      simp [nxt, e1, e2, h1, h2, h5, e4]
    rw [hn]
    clear hn
    have b1 : (c == 45) = false := beq_eq_false_iff_ne.2 h1
    have b2 : (c == 46) = false := beq_eq_false_iff_ne.2 h2
    have b3 : (c == 101) = false := beq_eq_false_iff_ne.2 h3
    have b4 : (c == 69) = false := beq_eq_false_iff_ne.2 h4
    have b5 : (c == 43) = false := beq_eq_false_iff_ne.2 h5
    have b6 : (c == 48) = false := beq_eq_false_iff_ne.2 (by omega)
    have d1 : decide (48 ≤ c) = false := decide_eq_false (by omega)
    clear h1 h2 h3 h4 h5
    go_enter Try.func12, Try.ntmps12
    go_wp2
    go_ret
    exact ⟨rfl, rfl⟩
  · have hn : nxt 8 c = 9 := by
      have e1 : dig c = false := by simp [dig]; omega
      have e2 : isE c = false := by simp [isE]; omega
      have e4 : c ≠ 48 := by omega
      simp [nxt, e1, e2, h1, h2, h5, e4]
    rw [hn]
    clear hn
    have b1 : (c == 45) = false := beq_eq_false_iff_ne.2 h1
    have b2 : (c == 46) = false := beq_eq_false_iff_ne.2 h2
    have b3 : (c == 101) = false := beq_eq_false_iff_ne.2 h3
    have b4 : (c == 69) = false := beq_eq_false_iff_ne.2 h4
    have b5 : (c == 43) = false := beq_eq_false_iff_ne.2 h5
    have b6 : (c == 48) = false := beq_eq_false_iff_ne.2 (by omega)
    have d1 : decide (c ≤ 57) = false := decide_eq_false (by omega)
    clear h1 h2 h3 h4 h5
    go_enter Try.func12, Try.ntmps12
    go_wp2
    go_ret
    exact ⟨rfl, rfl⟩

theorem next9 (c : Int) (w : World) (hc : 0 ≤ c ∧ c ≤ 255) :
    Calls Try.prog 12 #[.int .u8 9, .int .u8 c] w fun e w' => e = .returned (.int .u8 (nxt 9 c)) ∧ w' = w := by
  obtain ⟨hc1, hc2⟩ := hc
  rcases classes c with rfl | rfl | rfl | rfl | rfl | rfl | ⟨h1, h2⟩ | ⟨⟨h1, h2, h3, h4, h5⟩, h6⟩ | ⟨⟨h1, h2, h3, h4, h5⟩, h6⟩
  · have hn : nxt 9 45 = 9 := by decide
    rw [hn]
    clear hn
    go_enter Try.func12, Try.ntmps12
    go_wp2
    go_ret
    exact ⟨rfl, rfl⟩
  · have hn : nxt 9 48 = 9 := by decide
    rw [hn]
    clear hn
    go_enter Try.func12, Try.ntmps12
    go_wp2
    go_ret
    exact ⟨rfl, rfl⟩
  · have hn : nxt 9 46 = 9 := by decide
    rw [hn]
    clear hn
    go_enter Try.func12, Try.ntmps12
    go_wp2
    go_ret
    exact ⟨rfl, rfl⟩
  · have hn : nxt 9 101 = 9 := by decide
    rw [hn]
    clear hn
    go_enter Try.func12, Try.ntmps12
    go_wp2
    go_ret
    exact ⟨rfl, rfl⟩
  · have hn : nxt 9 69 = 9 := by decide
    rw [hn]
    clear hn
    go_enter Try.func12, Try.ntmps12
    go_wp2
    go_ret
    exact ⟨rfl, rfl⟩
  · have hn : nxt 9 43 = 9 := by decide
    rw [hn]
    clear hn
    go_enter Try.func12, Try.ntmps12
    go_wp2
    go_ret
    exact ⟨rfl, rfl⟩
  · have hn : nxt 9 c = 9 := by
      have e1 : dig c = true := by simp [dig]; omega
      have e2 : isE c = false := by simp [isE]; omega
      have e3 : c ≠ 45 := by omega
      have e4 : c ≠ 48 := by omega
      have e5 : c ≠ 46 := by omega
      have e6 : c ≠ 43 := by omega
      simp [nxt, e1, e2, e3, e4, e5, e6]
    rw [hn]
    clear hn
    have b1 : (c == 45) = false := beq_eq_false_iff_ne.2 (by omega)
    have b3 : (c == 101) = false := beq_eq_false_iff_ne.2 (by omega)
    have b4 : (c == 69) = false := beq_eq_false_iff_ne.2 (by omega)
    have b5 : (c == 43) = false := beq_eq_false_iff_ne.2 (by omega)
    go_enter Try.func12, Try.ntmps12
    go_wp2
    go_ret
    exact ⟨rfl, rfl⟩
  · have hn : nxt 9 c = 9 := by
      have e1 : dig c = false := by simp [dig]; omega
      have e2 : isE c = false := by simp [isE]; omega
      have e4 : c ≠ 48 := by omega
      simp [nxt, e1, e2, h1, h2, h5, e4]
    rw [hn]
    clear hn
    have b1 : (c == 45) = false := beq_eq_false_iff_ne.2 h1
    have b2 : (c == 46) = false := beq_eq_false_iff_ne.2 h2
    have b3 : (c == 101) = false := beq_eq_false_iff_ne.2 h3
    have b4 : (c == 69) = false := beq_eq_false_iff_ne.2 h4
    have b5 : (c == 43) = false := beq_eq_false_iff_ne.2 h5
    have b6 : (c == 48) = false := beq_eq_false_iff_ne.2 (by omega)
    have d1 : decide (48 ≤ c) = false := decide_eq_false (by omega)
    clear h1 h2 h3 h4 h5
    go_enter Try.func12, Try.ntmps12
    go_wp2
    go_ret
    exact ⟨rfl, rfl⟩
  · have hn : nxt 9 c = 9 := by
      have e1 : dig c = false := by simp [dig]; omega
      have e2 : isE c = false := by simp [isE]; omega
      have e4 : c ≠ 48 := by omega
      simp [nxt, e1, e2, h1, h2, h5, e4]
    rw [hn]
    clear hn
    have b1 : (c == 45) = false := beq_eq_false_iff_ne.2 h1
    have b2 : (c == 46) = false := beq_eq_false_iff_ne.2 h2
    have b3 : (c == 101) = false := beq_eq_false_iff_ne.2 h3
    have b4 : (c == 69) = false := beq_eq_false_iff_ne.2 h4
    have b5 : (c == 43) = false := beq_eq_false_iff_ne.2 h5
    have b6 : (c == 48) = false := beq_eq_false_iff_ne.2 (by omega)
    have d1 : decide (c ≤ 57) = false := decide_eq_false (by omega)
    clear h1 h2 h3 h4 h5
    go_enter Try.func12, Try.ntmps12
    go_wp2
    go_ret
    exact ⟨rfl, rfl⟩

theorem next_any (st c : Int) (w : World) (hs : 0 ≤ st ∧ st ≤ 9) (hc : 0 ≤ c ∧ c ≤ 255) :
    Calls Try.prog 12 #[.int .u8 st, .int .u8 c] w fun e w' => e = .returned (.int .u8 (nxt st c)) ∧ w' = w := by
  obtain ⟨n, rfl⟩ := Int.eq_ofNat_of_zero_le hs.1
  have hn : n ≤ 9 := by omega
  match n, hn with
  | 0, _ => exact next0 c w hc
  | 1, _ => exact next1 c w hc
  | 2, _ => exact next2 c w hc
  | 3, _ => exact next3 c w hc
  | 4, _ => exact next4 c w hc
  | 5, _ => exact next5 c w hc
  | 6, _ => exact next6 c w hc
  | 7, _ => exact next7 c w hc
  | 8, _ => exact next8 c w hc
  | 9, _ => exact next9 c w hc

end Go.Proofs.Qxb6000357a
