import Derived.Test.Qxb6601111aCmdP
namespace Go.Proofs.Qxb6601111a

/-- is the last of M a space? -/
def lastSp (M : List Int) : Bool := decide (0 < M.length ∧ M.getD (M.length - 1) 0 = 32)
theorem lastSp_snoc (M : List Int) (x : Int) : lastSp (M ++ [x]) = decide (x = 32) := by
  unfold lastSp
  have e : (M ++ [x]).getD ((M ++ [x]).length - 1) 0 = x := by simp [List.getD]
  rw [e]
  simp
theorem drop_at (A : List Int) (k : Nat) (h : k < A.length) : A.drop k = A.getD k 0 :: A.drop (k + 1) := by
  rw [List.drop_eq_getElem_cons h]
  simp [List.getD, h]
theorem f2_keep {ps : Bool} {x : Int} {r : List Int} (h : ¬ (x = 32 ∧ ps = true)) : f2 ps (x :: r) = x :: f2 (decide (x = 32)) r := by
  rw [f2, if_neg h]
theorem f2_skip {x : Int} {r : List Int} (h : x = 32) : f2 true (x :: r) = f2 true r := by
  rw [f2, if_pos ⟨h, rfl⟩]
theorem f3_keep {x : Int} {r : List Int} (h : ¬ (x = 32 ∧ headMark r = true)) : f3 (x :: r) = x :: f3 r := by
  rw [f3, if_neg h]
theorem f3_skip {x : Int} {r : List Int} (h : x = 32 ∧ headMark r = true) : f3 (x :: r) = f3 r := by
  rw [f3, if_pos h]

/-- a step of the second pass -/
theorem two_keep {A M T : List Int} {k : Nat} {x : Int} (h : T = M ++ f2 (lastSp M) (A.drop k)) (hk : k < A.length) (hx : x = A.getD k 0) (hn : ¬ (x = 32 ∧ lastSp M = true)) : T = (M ++ [x]) ++ f2 (lastSp (M ++ [x])) (A.drop (k + 1)) := by
  rw [h, drop_at A k hk, ← hx, f2_keep hn, lastSp_snoc]; simp
theorem two_skip {A M T : List Int} {k : Nat} {x : Int} (h : T = M ++ f2 (lastSp M) (A.drop k)) (hk : k < A.length) (hx : x = A.getD k 0) (h1 : x = 32) (h2 : lastSp M = true) : T = M ++ f2 (lastSp M) (A.drop (k + 1)) := by
  rw [h, drop_at A k hk, ← hx, h2, f2_skip h1]
/-- a step of the third pass -/
theorem three_keep {A M T : List Int} {k : Nat} {x : Int} (h : T = M ++ f3 (A.drop k)) (hk : k < A.length) (hx : x = A.getD k 0) (hn : ¬ (x = 32 ∧ headMark (A.drop (k + 1)) = true)) : T = (M ++ [x]) ++ f3 (A.drop (k + 1)) := by
  rw [h, drop_at A k hk, ← hx, f3_keep hn]; simp
theorem three_skip {A M T : List Int} {k : Nat} {x : Int} (h : T = M ++ f3 (A.drop k)) (hk : k < A.length) (hx : x = A.getD k 0) (hn : x = 32 ∧ headMark (A.drop (k + 1)) = true) : T = M ++ f3 (A.drop (k + 1)) := by
  rw [h, drop_at A k hk, ← hx, f3_skip hn]
theorem headMark_at {A : List Int} {k : Nat} (h : k < A.length) : headMark (A.drop k) = isMark (A.getD k 0) := by rw [drop_at A k h]; rfl
theorem headMark_end {A : List Int} {k : Nat} (h : ¬ k < A.length) : headMark (A.drop k) = false := by rw [List.drop_eq_nil_of_le (by omega)]; rfl

end Go.Proofs.Qxb6601111a
