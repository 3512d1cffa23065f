import Derived.Test.Qxb6000357aExp
namespace Go.Proofs.Qxb6000357a
open Go.RowKit
set_option linter.unusedSimpArgs false

/-! ### THE AUTOMATON, plain -/
def isE (c : Int) : Bool := decide (c = 101 ∨ c = 69)
def nxt (st c : Int) : Int :=
  if st = 0 then (if c = 45 then 1 else if c = 48 then 2 else if dig c = true then 3 else 9)
  else if st = 1 then (if c = 48 then 2 else if dig c = true then 3 else 9)
  else if st = 2 then (if c = 46 then 4 else if isE c = true then 6 else 9)
  else if st = 3 then (if dig c = true then 3 else if c = 46 then 4 else if isE c = true then 6 else 9)
  else if st = 4 then (if dig c = true then 5 else 9)
  else if st = 5 then (if dig c = true then 5 else if isE c = true then 6 else 9)
  else if st = 6 then (if c = 43 ∨ c = 45 then 7 else if dig c = true then 8 else 9)
  else if st = 7 ∨ st = 8 then (if dig c = true then 8 else 9)
  else 9
def acc (st : Int) : Bool := decide (st = 2 ∨ st = 3 ∨ st = 5 ∨ st = 8)
def runL (st : Int) : List Int → Int
  | [] => st
  | c :: r => runL (nxt st c) r

theorem nxt_range (st c : Int) : 0 ≤ nxt st c ∧ nxt st c ≤ 9 := by
  unfold nxt
  repeat' split
  all_goals decide
theorem runL_range (l : List Int) : ∀ st, 0 ≤ st ∧ st ≤ 9 → 0 ≤ runL st l ∧ runL st l ≤ 9 := by
  induction l with
  | nil => intro st h; exact h
  | cons c r ih => intro st _; exact ih _ (nxt_range st c)
theorem runL_snoc (l : List Int) (c : Int) : ∀ st, runL st (l ++ [c]) = nxt (runL st l) c := by
  induction l with
  | nil => intro st; rfl
  | cons d r ih => intro st; exact ih _

/-! ### THE READER BY RECURSIVE DESCENT, plain -/
def dropDig : List Int → List Int
  | [] => []
  | c :: r => if dig c = true then dropDig r else c :: r
def vExp2 (l : List Int) : Bool := !l.isEmpty && (dropDig l).isEmpty
def vExp1 : List Int → Bool
  | [] => false
  | c :: r => if c = 43 ∨ c = 45 then vExp2 r else vExp2 (c :: r)
def vTail : List Int → Bool
  | [] => true
  | c :: r => if isE c = true then vExp1 r else false
/-- is the first a digit? -/
def firstDig : List Int → Bool
  | [] => false
  | c :: _ => dig c
def vFrac : List Int → Bool
  | [] => true
  | c :: r => if c = 46 then (firstDig r && vTail (dropDig r)) else vTail (c :: r)
def vInt : List Int → Bool
  | [] => false
  | c :: r => if c = 48 then vFrac r else if dig c = true then vFrac (dropDig r) else false
def valid : List Int → Bool
  | [] => false
  | c :: r => if c = 45 then vInt r else vInt (c :: r)

theorem acc9 (l : List Int) : acc (runL 9 l) = false := by
  induction l with
  | nil => rfl
  | cons c r ih =>
    have : nxt 9 c = 9 := by simp [nxt]
    simp only [runL, this]; exact ih
theorem acc8 (l : List Int) : acc (runL 8 l) = (dropDig l).isEmpty := by
  induction l with
  | nil => rfl
  | cons c r ih =>
    by_cases h : dig c = true
    · have : nxt 8 c = 8 := by simp [nxt, h]
      simp only [runL, this, dropDig, h, if_true]; exact ih
    · have : nxt 8 c = 9 := by simp [nxt, h]
      simp only [runL, this, acc9, dropDig, h, if_false]; rfl
theorem acc7 (l : List Int) : acc (runL 7 l) = vExp2 l := by
  cases l with
  | nil => rfl
  | cons c r =>
    by_cases h : dig c = true
    · have : nxt 7 c = 8 := by simp [nxt, h]
      simp [runL, this, acc8, vExp2, dropDig, h]
    · have : nxt 7 c = 9 := by simp [nxt, h]
      simp [runL, this, acc9, vExp2, dropDig, h]
theorem acc6 (l : List Int) : acc (runL 6 l) = vExp1 l := by
  cases l with
  | nil => rfl
  | cons c r =>
    by_cases hs : c = 43 ∨ c = 45
    · have : nxt 6 c = 7 := by simp [nxt, hs]
      simp [runL, this, acc7, vExp1, hs]
    · by_cases h : dig c = true
      · have : nxt 6 c = 8 := by simp [nxt, h, hs]
        simp [runL, this, acc8, vExp1, vExp2, dropDig, h, hs]
      · have : nxt 6 c = 9 := by simp [nxt, h, hs]
        simp [runL, this, acc9, vExp1, vExp2, dropDig, h, hs]
theorem isE_not_dig {c : Int} (h : isE c = true) : ¬ dig c = true := by
  simp [isE] at h; simp [dig]; omega
theorem acc5 (l : List Int) : acc (runL 5 l) = vTail (dropDig l) := by
  induction l with
  | nil => rfl
  | cons c r ih =>
    by_cases h : dig c = true
    · have : nxt 5 c = 5 := by simp [nxt, h]
      simp only [runL, this, dropDig, h, if_true]; exact ih
    · by_cases he : isE c = true
      · have : nxt 5 c = 6 := by simp [nxt, h, he]
        simp [runL, this, acc6, dropDig, h, vTail, he]
      · have : nxt 5 c = 9 := by simp [nxt, h, he]
        simp [runL, this, acc9, dropDig, h, vTail, he]
theorem acc4 (l : List Int) : acc (runL 4 l) = (firstDig l && vTail (dropDig l)) := by
  cases l with
  | nil => rfl
  | cons c r =>
    by_cases h : dig c = true
    · have : nxt 4 c = 5 := by simp [nxt, h]
      simp [runL, this, acc5, firstDig, dropDig, h]
    · have : nxt 4 c = 9 := by simp [nxt, h]
      simp [runL, this, acc9, firstDig, h]
theorem acc2 (l : List Int) : acc (runL 2 l) = vFrac l := by
  cases l with
  | nil => rfl
  | cons c r =>
    by_cases h : c = 46
    · subst h
      have : nxt 2 46 = 4 := by decide
      simp [runL, this, acc4, vFrac]
    · by_cases he : isE c = true
      · have : nxt 2 c = 6 := by simp [nxt, h, he]
        simp [runL, this, acc6, vFrac, vTail, h, he]
      · have : nxt 2 c = 9 := by simp [nxt, h, he]
        simp [runL, this, acc9, vFrac, vTail, h, he]
theorem dig46 : ¬ dig 46 = true := by decide
theorem acc3 (l : List Int) : acc (runL 3 l) = vFrac (dropDig l) := by
  induction l with
  | nil => rfl
  | cons c r ih =>
    by_cases h : dig c = true
    · have : nxt 3 c = 3 := by simp [nxt, h]
      simp only [runL, this, dropDig, h, if_true]; exact ih
    · by_cases h46 : c = 46
      · subst h46
        have : nxt 3 46 = 4 := by decide
        simp [runL, this, acc4, dropDig, h, vFrac]
      · by_cases he : isE c = true
        · have : nxt 3 c = 6 := by simp [nxt, h, h46, he]
          simp [runL, this, acc6, dropDig, h, vFrac, vTail, h46, he]
        · have : nxt 3 c = 9 := by simp [nxt, h, h46, he]
          simp [runL, this, acc9, dropDig, h, vFrac, vTail, h46, he]
theorem acc1 (l : List Int) : acc (runL 1 l) = vInt l := by
  cases l with
  | nil => rfl
  | cons c r =>
    by_cases h : c = 48
    · subst h
      have : nxt 1 48 = 2 := by decide
      simp [runL, this, acc2, vInt]
    · by_cases hd : dig c = true
      · have : nxt 1 c = 3 := by simp [nxt, h, hd]
        simp [runL, this, acc3, vInt, h, hd]
      · have : nxt 1 c = 9 := by simp [nxt, h, hd]
        simp [runL, this, acc9, vInt, h, hd]
theorem acc0 (l : List Int) : acc (runL 0 l) = valid l := by
  cases l with
  | nil => rfl
  | cons c r =>
    by_cases h45 : c = 45
    · subst h45
      have : nxt 0 45 = 1 := by decide
      simp [runL, this, acc1, valid]
    · by_cases h : c = 48
      · subst h
        have : nxt 0 48 = 2 := by decide
        simp [runL, this, acc2, valid, vInt]
      · by_cases hd : dig c = true
        · have : nxt 0 c = 3 := by simp [nxt, h45, h, hd]
          simp [runL, this, acc3, valid, vInt, h45, h, hd]
        · have : nxt 0 c = 9 := by simp [nxt, h45, h, hd]
          simp [runL, this, acc9, valid, vInt, h45, h, hd]

/-- alive exactly where s or s and a nought is a number -/
theorem alive_viable (l : List Int) : (runL 0 l != 9) = (valid l || valid (l ++ [48])) := by
  rw [← acc0 l, ← acc0 (l ++ [48]), runL_snoc]
  have h := runL_range l 0 (by decide)
  generalize runL 0 l = st at h
  obtain ⟨n, rfl⟩ := Int.eq_ofNat_of_zero_le h.1
  have hn : n ≤ 9 := by omega
  match n, hn with
  | 0, _ | 1, _ | 2, _ | 3, _ | 4, _ | 5, _ | 6, _ | 7, _ | 8, _ | 9, _ => decide

end Go.Proofs.Qxb6000357a
