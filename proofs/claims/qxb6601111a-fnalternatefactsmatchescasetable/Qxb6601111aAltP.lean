import Derived.Test.Qxb6601111aAltA
namespace Go.Proofs.Qxb6601111a

/-! ### the case table, plain -/
def addAll (D ss : List ByteArray) : List ByteArray := ss.foldl addNew D
def dist (ks : List (Int × List ByteArray)) : List ByteArray := ks.foldl (fun D k => addAll D k.2) []
def emptyIn (ss : List ByteArray) : Bool := ss.any fun t => t.toList.isEmpty
def exactAll (ks : List (Int × List ByteArray)) : Bool := ks.all fun k => k.1 == 1
def needleOk (k : Int × List ByteArray) : Bool := k.1 == 2 || (k.1 == 1 && !emptyIn k.2)
def needlesAll (ks : List (Int × List ByteArray)) : Bool := ks.all needleOk
def cnt (ks : List (Int × List ByteArray)) : Nat := (ks.map fun k => k.2.length).sum

/-- all exact, and few -/
def first (ks : List (Int × List ByteArray)) : Bool := exactAll ks && decide (1 ≤ (dist ks).length) && decide ((dist ks).length ≤ 64)
def altK (ks : List (Int × List ByteArray)) : Int := if first ks = true then 1 else if needlesAll ks = false ∨ 4096 < (dist ks).length then 0 else 2
def altD (ks : List (Int × List ByteArray)) : List ByteArray := if first ks = true then dist ks else if needlesAll ks = false ∨ 4096 < (dist ks).length then [] else dist ks

theorem addAll_nil (D : List ByteArray) : addAll D [] = D := rfl
theorem addAll_snoc (D ss : List ByteArray) (s : ByteArray) : addAll D (ss ++ [s]) = addNew (addAll D ss) s := by simp [addAll]
theorem addAll_length (D ss : List ByteArray) : D.length ≤ (addAll D ss).length ∧ (addAll D ss).length ≤ D.length + ss.length := by
  induction ss generalizing D with
  | nil => simp [addAll]
  | cons s r ih =>
    have h := ih (addNew D s)
    have h2 := addNew_length D s
    simp only [addAll, List.foldl_cons, List.length_cons] at h ⊢
    omega
theorem dist_nil : dist [] = [] := rfl
theorem dist_snoc (ks : List (Int × List ByteArray)) (k : Int × List ByteArray) : dist (ks ++ [k]) = addAll (dist ks) k.2 := by simp [dist]
theorem dist_mono (ks ls : List (Int × List ByteArray)) : (dist ks).length ≤ (dist (ks ++ ls)).length := by
  induction ls generalizing ks with
  | nil => simp
  | cons l r ih =>
    have h := ih (ks ++ [l])
    rw [List.append_assoc] at h
    have h2 := (addAll_length (dist ks) l.2).1
    rw [dist_snoc] at h
    exact Nat.le_trans h2 h
theorem dist_cnt (ks : List (Int × List ByteArray)) : (dist ks).length ≤ cnt ks := by
  have aux : ∀ (ks : List (Int × List ByteArray)) (D : List ByteArray), (ks.foldl (fun D k => addAll D k.2) D).length ≤ D.length + cnt ks := by
    intro ks
    induction ks with
    | nil => intro D; simp [cnt]
    | cons k r ih =>
      intro D
      have h := ih (addAll D k.2)
      have h2 := (addAll_length D k.2).2
      simp only [List.foldl_cons, cnt, List.map_cons, List.sum_cons] at h ⊢
      omega
  have := aux ks []
  simpa [dist] using this
theorem take_snoc' {α : Type} {l : List α} {i : Nat} {x : α} (h : l[i]? = some x) : l.take (i + 1) = l.take i ++ [x] := by
  obtain ⟨hi, hx⟩ := List.getElem?_eq_some_iff.1 h
  rw [List.take_succ_eq_append_getElem hi, hx]
theorem dist_take_le (ks : List (Int × List ByteArray)) (i : Nat) : (dist (ks.take i)).length ≤ (dist ks).length := by
  have := dist_mono (ks.take i) (ks.drop i)
  rwa [List.take_append_drop] at this
theorem exact_false {ks : List (Int × List ByteArray)} {i : Nat} {k : Int × List ByteArray} (h : ks[i]? = some k) (hk : (k.1 == 1) = false) : exactAll ks = false := by
  cases he : exactAll ks with
  | false => rfl
  | true =>
    simp only [exactAll, List.all_eq_true] at he
    rw [he k (List.mem_of_getElem? h)] at hk
    cases hk
theorem needles_false {ks : List (Int × List ByteArray)} {i : Nat} {k : Int × List ByteArray} (h : ks[i]? = some k) (hk : needleOk k = false) : needlesAll ks = false := by
  cases he : needlesAll ks with
  | false => rfl
  | true =>
    simp only [needlesAll, List.all_eq_true] at he
    rw [he k (List.mem_of_getElem? h)] at hk
    cases hk
theorem all_snoc {α : Type} {l : List α} {p : α → Bool} {i : Nat} {x : α} (h : l[i]? = some x) (h1 : (l.take i).all p = true) (h2 : p x = true) : (l.take (i + 1)).all p = true := by
  rw [take_snoc' h, List.all_append, h1]; simp [h2]

theorem first_false_of_exact {ks : List (Int × List ByteArray)} (h : exactAll ks = false) : first ks = false := by simp [first, h]
theorem first_false_of_long {ks : List (Int × List ByteArray)} (h : 64 < (dist ks).length) : first ks = false := by
  have : decide ((dist ks).length ≤ 64) = false := decide_eq_false (by omega)
  simp [first, this]
theorem first_false_of_none {ks : List (Int × List ByteArray)} (h : dist ks = []) : first ks = false := by simp [first, h]
theorem first_true {ks : List (Int × List ByteArray)} (h1 : exactAll ks = true) (h2 : dist ks ≠ []) (h3 : (dist ks).length ≤ 64) : first ks = true := by
  have e2 : 1 ≤ (dist ks).length := List.length_pos_iff.2 h2
  simp [first, h1, e2, h3]

theorem empty_toList : ByteArray.empty.toList = [] := by rw [ByteArray.toList_eq]; rfl
theorem has_empty (ss : List ByteArray) : hasL ss ByteArray.empty = emptyIn ss := by
  unfold hasL emptyIn
  rw [empty_toList]
  congr 1
  funext t
  cases t.toList <;> rfl
theorem emptyIn_take_succ {D : List ByteArray} {t : ByteArray} {k : Nat} (hk : k < D.length) (ht : t = D.getD k ByteArray.empty) : emptyIn (D.take (k + 1)) = (emptyIn (D.take k) || t.toList.isEmpty) := by
  have e : t = D[k] := by rw [ht]; simp [List.getD, hk]
  have e2 : D.take (k + 1) = D.take k ++ [D[k]] := List.take_succ_eq_append_getElem hk
  unfold emptyIn
  rw [e2, List.any_append, e]
  simp only [List.any_cons, List.any_nil, Bool.or_false]
theorem emptyIn_of_take {D : List ByteArray} {k : Nat} (h : emptyIn (D.take k) = true) : emptyIn D = true := by
  simp only [emptyIn, List.any_eq_true] at h ⊢
  obtain ⟨x, hx, h⟩ := h
  exact ⟨x, List.mem_of_mem_take hx, h⟩

end Go.Proofs.Qxb6601111a
