namespace Go.Proofs.Qxb6601111a

/-! ### cmdLine and its model, plain, over lists of numbers -/
def isDrop (c : Int) : Bool := decide (c = 92 ∨ c = 34 ∨ c = 39 ∨ c = 94)
def isBlank (c : Int) : Bool := decide (c = 44 ∨ c = 59 ∨ c = 32 ∨ c = 9 ∨ c = 10 ∨ c = 11 ∨ c = 12 ∨ c = 13)
def low (c : Int) : Int := if 65 ≤ c ∧ c ≤ 90 then c + 32 else c
def isMark (c : Int) : Bool := decide (c = 47 ∨ c = 40)

def cmdF (sp : Bool) : List Int → List Int
  | [] => if sp = true then [32] else []
  | c :: r => if isDrop c = true then cmdF sp r else if isBlank c = true then cmdF true r
      else (if sp = true ∧ isMark c = false then [32] else []) ++ (low c :: cmdF false r)

def p1 : List Int → List Int
  | [] => []
  | c :: r => if isDrop c = true then p1 r else if isBlank c = true then 32 :: p1 r else low c :: p1 r
def f2 (ps : Bool) : List Int → List Int
  | [] => []
  | x :: r => if x = 32 ∧ ps = true then f2 ps r else x :: f2 (decide (x = 32)) r
/-- does the list begin with / or ( ? -/
def headMark : List Int → Bool
  | [] => false
  | x :: _ => isMark x
def f3 : List Int → List Int
  | [] => []
  | x :: r => if x = 32 ∧ headMark r = true then f3 r else x :: f3 r

theorem low_ne {c : Int} (h : isBlank c = false) : low c ≠ 32 := by
  simp [isBlank] at h
  unfold low
  split <;> omega
theorem low_mark (c : Int) : isMark (low c) = isMark c := by
  unfold low
  split
  · unfold isMark; rw [decide_eq_decide]; omega
  · rfl

theorem model_eq (l : List Int) : ∀ sp : Bool, f3 (if sp = true then 32 :: f2 true (p1 l) else f2 false (p1 l)) = cmdF sp l := by
  induction l with
  | nil => intro sp; cases sp <;> rfl
  | cons c r ih =>
    intro sp
    by_cases hd : isDrop c = true
    · have e1 : p1 (c :: r) = p1 r := by simp [p1, hd]
      have e2 : cmdF sp (c :: r) = cmdF sp r := by simp [cmdF, hd]
      rw [e1, e2]; exact ih sp
    · by_cases hb : isBlank c = true
      · have e1 : p1 (c :: r) = 32 :: p1 r := by simp [p1, hd, hb]
        have e2 : cmdF sp (c :: r) = cmdF true r := by simp [cmdF, hd, hb]
        rw [e1, e2, ← ih true]
        cases sp <;> simp [f2]
      · have hb' : isBlank c = false := by simpa using hb
        have e1 : p1 (c :: r) = low c :: p1 r := by simp [p1, hd, hb]
        have e2 : cmdF sp (c :: r) = (if sp = true ∧ isMark c = false then [32] else []) ++ (low c :: cmdF false r) := by simp [cmdF, hd, hb]
        have hne := low_ne hb'
        have e3 : ∀ ps, f2 ps (low c :: p1 r) = low c :: f2 false (p1 r) := by intro ps; simp [f2, hne]
        have e4 : f3 (low c :: f2 false (p1 r)) = low c :: cmdF false r := by
          have := ih false
          simp at this
          simp [f3, hne, this]
        rw [e1, e2]
        cases sp
        · simp only [Bool.false_eq_true, if_false, false_and, List.nil_append]
          rw [e3, e4]
        · simp only [if_true, true_and]
          rw [e3]
          have e5 : f3 (32 :: low c :: f2 false (p1 r)) = if isMark c = true then f3 (low c :: f2 false (p1 r)) else 32 :: f3 (low c :: f2 false (p1 r)) := by
            rw [f3]; simp [headMark, low_mark]
          rw [e5, e4]
          cases isMark c <;> simp

theorem three_pass (l : List Int) : f3 (f2 false (p1 l)) = cmdF false l := by simpa using model_eq l false

/-! ### one byte at a time -/
theorem cmd_drop (sp : Bool) {c : Int} (r : List Int) (h : isDrop c = true) : cmdF sp (c :: r) = cmdF sp r := by simp [cmdF, h]
theorem cmd_blank (sp : Bool) {c : Int} (r : List Int) (h1 : isDrop c = false) (h : isBlank c = true) : cmdF sp (c :: r) = cmdF true r := by simp [cmdF, h1, h]
theorem cmd_sp {c : Int} (r : List Int) (h1 : isDrop c = false) (h2 : isBlank c = false) (h : isMark c = false) : cmdF true (c :: r) = [32, low c] ++ cmdF false r := by simp [cmdF, h1, h2, h]
theorem cmd_mark {c : Int} (sp : Bool) (r : List Int) (h1 : isDrop c = false) (h2 : isBlank c = false) (h : isMark c = true) : cmdF sp (c :: r) = [low c] ++ cmdF false r := by simp [cmdF, h1, h2, h]
theorem cmd_no {c : Int} (r : List Int) (h1 : isDrop c = false) (h2 : isBlank c = false) : cmdF false (c :: r) = [low c] ++ cmdF false r := by simp [cmdF, h1, h2]
theorem p1_drop {c : Int} (r : List Int) (h : isDrop c = true) : p1 (c :: r) = p1 r := by simp [p1, h]
theorem p1_blank {c : Int} (r : List Int) (h1 : isDrop c = false) (h : isBlank c = true) : p1 (c :: r) = [32] ++ p1 r := by simp [p1, h1, h]
theorem p1_other {c : Int} (r : List Int) (h1 : isDrop c = false) (h : isBlank c = false) : p1 (c :: r) = [low c] ++ p1 r := by simp [p1, h1, h]

/-- the classes of a byte -/
theorem cases_of (c : Int) : (c = 92 ∨ c = 34 ∨ c = 39 ∨ c = 94) ∨ (c = 44 ∨ c = 59 ∨ c = 32 ∨ c = 9 ∨ c = 10 ∨ c = 11 ∨ c = 12 ∨ c = 13) ∨ (c = 47 ∨ c = 40) ∨ (65 ≤ c ∧ c ≤ 90) ∨
    ((¬ (c = 92 ∨ c = 34 ∨ c = 39 ∨ c = 94) ∧ ¬ (c = 44 ∨ c = 59 ∨ c = 32 ∨ c = 9 ∨ c = 10 ∨ c = 11 ∨ c = 12 ∨ c = 13) ∧ ¬ (c = 47 ∨ c = 40)) ∧ c < 65) ∨
    ((¬ (c = 92 ∨ c = 34 ∨ c = 39 ∨ c = 94) ∧ ¬ (c = 44 ∨ c = 59 ∨ c = 32 ∨ c = 9 ∨ c = 10 ∨ c = 11 ∨ c = 12 ∨ c = 13) ∧ ¬ (c = 47 ∨ c = 40)) ∧ 90 < c) := by omega

end Go.Proofs.Qxb6601111a
