import Derived.Test.Qxb6000357aRead
namespace Go.Proofs.Qxb6000357a
open Go.RowKit

def sgnA (s : Int) : List Int := if s = 1 then [43] else []
def sgnB (s : Int) : List Int := if s = 2 then [45] else []
/-- the tail's bytes as numbers -/
def tlist (tl : ByteArray) : List Int := tl.data.toList.map fun b => (b.toNat : Int)

theorem tlist_take (tl : ByteArray) (k : Nat) (h : k < tl.size) : (tlist tl).take (k + 1) = (tlist tl).take k ++ [((tl[k]'h).toNat : Int)] := by
  rw [List.take_succ_eq_append_getElem (by simpa [tlist] using h)]
  simp [tlist]
  rfl

theorem tlist_head (tl : ByteArray) (h : ∀ h : 0 < tl.size, dig (tl[0]'h).toNat = false) : 0 < (tlist tl).length → dig ((tlist tl).getD 0 0) = false := by
  intro h0
  have h1 : 0 < tl.size := by simpa [tlist] using h0
  have := h h1
  simp only [tlist, List.getD, List.getElem?_map]
  rw [List.getElem?_eq_getElem (by simpa using h1)]
  exact this

theorem Inv.bytes {w0 wr : World} {cap : Nat} {l : List Int} (h : Inv w0 cap l wr) (hb : ∀ x ∈ l, 0 ≤ x ∧ x ≤ 255) : BytesAt wr (some ⟨w0.heap.size, 0, none⟩) l.length (fun i => l.getD i 0) := by
  intro i hi
  refine ⟨_, _, rfl, by simpa using h.cell i hi, ?_⟩
  have := hb (l.getD i 0) (by simp [List.getD, hi])
  exact this

theorem mem_dl {D : Nat → Int} {q m : Nat} {x : Int} (h : x ∈ dl D q m) : ∃ j, q ≤ j ∧ j < q + m ∧ x = D j := by
  induction m with
  | zero => simp [dl] at h
  | succ m ih =>
    simp only [dl, List.mem_append, List.mem_singleton] at h
    rcases h with h | h
    · obtain ⟨j, h1, h2, h3⟩ := ih h; exact ⟨j, h1, by omega, h3⟩
    · exact ⟨q + m, by omega, by omega, h⟩

theorem tlist_bd (tl : ByteArray) : ∀ x ∈ tlist tl, 0 ≤ x ∧ x ≤ 255 := by
  intro x hx
  simp only [tlist, List.mem_map] at hx
  obtain ⟨b, _, rfl⟩ := hx
  have := b.toNat_lt
  omega

theorem bytes_bd {v s : Int} {c : Int} {t q m : Nat} {l1 l2 lt l3 l4 T : List Int} {D : Nat → Int} (hc : c = 69 ∨ c = 101)
    (h1 : l1 = c :: sgnA s) (h2 : l2 = l1 ++ sgnB s) (h3 : lt = l2 ++ List.replicate t 48) (h4 : l3 = lt ++ dl D q m) (h5 : l4 = l3 ++ T)
    (hm : q + m = 20) (hD : ∀ j, q ≤ j → j < 20 → D j = 48 + vq v (19 - j) % 10) (hT : ∀ x ∈ T, 0 ≤ x ∧ x ≤ 255) : ∀ x ∈ l4, 0 ≤ x ∧ x ≤ 255 := by
  subst h1 h2 h3 h4 h5
  intro x hx
  simp only [List.mem_append, List.mem_cons, sgnA, sgnB, List.mem_replicate] at hx
  rcases hx with ((((h | h) | h) | h) | h) | h
  · omega
  · split at h <;> simp at h; omega
  · split at h <;> simp at h; omega
  · omega
  · obtain ⟨j, h1, h2, h3⟩ := mem_dl h
    have := hD j h1 (by omega)
    omega
  · exact hT x h

theorem dl_getD (D : Nat → Int) (q m i : Nat) (h : i < m) : (dl D q m).getD i 0 = D (q + i) := by
  induction m with
  | zero => omega
  | succ m ih =>
    simp only [dl, List.getD_eq_getElem?_getD]
    by_cases e : i < m
    · rw [List.getElem?_append_left (by rw [dl_length]; omega), ← List.getD_eq_getElem?_getD]
      exact ih e
    · obtain rfl : i = m := by omega
      rw [List.getElem?_append_right (by rw [dl_length]; omega), dl_length]
      simp

/-- Behind the head H stand Z's digits and then T. -/
theorem getD_right (H Z : List Int) (i : Nat) : (H ++ Z).getD (H.length + i) 0 = Z.getD i 0 := by
  simp only [List.getD_eq_getElem?_getD]
  rw [List.getElem?_append_right (by omega)]
  congr 2
  omega
theorem getD_left (Z T : List Int) (i : Nat) (h : i < Z.length) : (Z ++ T).getD i 0 = Z.getD i 0 := by
  simp only [List.getD_eq_getElem?_getD]
  rw [List.getElem?_append_left h]

theorem run_len {f : Nat → Int} {n S kk L : Nat} (hS : stOf f n = S) (hn : S + L ≤ n) (hd : ∀ i, i < L → dig (f (S + i)) = true) (he : S + L < n → dig (f (S + L)) = false) (h : RunK f n kk) : kk = L := by
  obtain ⟨h1, h2⟩ := h
  rw [hS] at h1 h2
  by_cases e : kk < L
  · have := h2 (by omega)
    rw [hd kk e] at this
    cases this
  · by_cases e2 : L < kk
    · have := h1 L e2
      rw [he this.1] at this
      cases this.2
    · omega

theorem mag_zero (f : Nat → Int) (S t : Nat) (h : ∀ i, i < t → f (S + i) = 48) : magOf f S t = 0 := by
  induction t with
  | zero => rfl
  | succ t ih =>
    have e := ih (fun i hi => h i (by omega))
    rw [magOf_lt f S t (by rw [e]; decide), e, h t (by omega)]
    rfl

theorem mag_dig (f : Nat → Int) (v : Int) (S t m : Nat) (hz : vq v m = 0) (h0 : magOf f S t = 0) (h : ∀ i, i < m → f (S + (t + i)) = 48 + vq v (m - 1 - i) % 10) (i : Nat) (hi : i ≤ m) :
    (vq v (m - i) < 576460752303423488 → magOf f S (t + i) = vq v (m - i)) ∧ (¬ vq v (m - i) < 576460752303423488 → 576460752303423488 ≤ magOf f S (t + i)) := by
  induction i with
  | zero =>
    rw [Nat.add_zero, Nat.sub_zero, h0, hz]
    exact ⟨fun _ => rfl, fun h => absurd (by decide) h⟩
  | succ i ih =>
    obtain ⟨ih1, ih2⟩ := ih (by omega)
    have hx := vq_succ v (m - 1 - i)
    rw [show m - 1 - i + 1 = m - i by omega] at hx
    have hf := h i (by omega)
    rw [show m - (i + 1) = m - 1 - i by omega]
    rw [← Nat.add_assoc]
    generalize vq v (m - 1 - i) = X at *
    rw [hx] at ih1 ih2
    by_cases hlt : X / 10 < 576460752303423488
    · have e := ih1 hlt
      have hm := magOf_lt f S (t + i) (by rw [e]; exact hlt)
      rw [e, hf] at hm
      rw [hm]
      constructor
      · intro _; omega
      · intro h; omega
    · have e := ih2 hlt
      have hm := magOf_ge f S (t + i) (by omega)
      rw [hm]
      constructor
      · intro h; omega
      · intro _; exact e

theorem plain_law {v s : Int} {c : Int} {t q m r : Nat} {l1 l2 lt l3 l4 T : List Int} {D : Nat → Int}
    (h1 : l1 = c :: sgnA s) (h2 : l2 = l1 ++ sgnB s) (h3 : lt = l2 ++ List.replicate t 48) (h4 : l3 = lt ++ dl D q m) (h5 : l4 = l3 ++ T)
    (hm : q + m = 20) (hq : q < 20) (hr : r = 19 - q) (hz : vq v (r + 1) = 0) (hD : ∀ j, q ≤ j → j < 20 → D j = 48 + vq v (19 - j) % 10) (hT : 0 < T.length → dig (T.getD 0 0) = false) :
    ∀ kk, RunK (fun i => l4.getD i 0) l4.length kk → ∃ M, ExpRes (fun i => l4.getD i 0) l4.length kk = .tuple #[.int .u64 M, .bool (s == 2), .int .i64 (l3.length : Int)] ∧
      (v < 576460752303423488 → M = v) ∧ (¬ v < 576460752303423488 → 576460752303423488 ≤ M ∧ M < 9223372036854775808) := by
  subst h1 h2 h3 h4
  obtain ⟨H, hH⟩ : ∃ H, H = c :: sgnA s ++ sgnB s := ⟨_, rfl⟩
  obtain ⟨Z, hZ⟩ : ∃ Z, Z = List.replicate t 48 ++ dl D q m := ⟨_, rfl⟩
  have hl4 : l4 = H ++ (Z ++ T) := by rw [h5, hH, hZ]; simp
  have hl3 : (c :: sgnA s ++ sgnB s ++ List.replicate t 48 ++ dl D q m).length = H.length + Z.length := by rw [hH, hZ]; simp; omega
  rw [hl3]
  clear hl3 h5
  have hZl : Z.length = t + m := by rw [hZ]; simp [dl_length]
  have hm1 : m = r + 1 := by omega
  -- the digits
  have hZ1 : ∀ i, i < t → Z.getD i 0 = 48 := by
    intro i hi
    rw [hZ, getD_left _ _ _ (by simpa using hi)]
    simp [List.getD_eq_getElem?_getD, hi]
  have hZ2 : ∀ i, i < m → Z.getD (t + i) 0 = 48 + vq v (m - 1 - i) % 10 := by
    intro i hi
    have e := getD_right (List.replicate t 48) (dl D q m) i
    rw [List.length_replicate] at e
    rw [hZ, e, dl_getD _ _ _ _ hi, hD (q + i) (by omega) (by omega), show 19 - (q + i) = m - 1 - i by omega]
  have hdg : ∀ i, i < t + m → dig (Z.getD i 0) = true := by
    intro i hi
    by_cases e : i < t
    · rw [hZ1 i e]; decide
    · obtain ⟨j, rfl⟩ : ∃ j, i = t + j := ⟨i - t, by omega⟩
      rw [hZ2 j (by omega)]
      simp [dig]; omega
  clear hZ hD
  subst hl4
  have hf : ∀ i, (H ++ (Z ++ T)).getD (H.length + i) 0 = (Z ++ T).getD i 0 := getD_right H (Z ++ T)
  have hfz : ∀ i, i < t + m → (H ++ (Z ++ T)).getD (H.length + i) 0 = Z.getD i 0 := fun i hi => by rw [hf, getD_left _ _ _ (by omega)]
  have hft : (H ++ (Z ++ T)).getD (H.length + (t + m)) 0 = T.getD 0 0 := by
    rw [hf]
    have := getD_right Z T 0
    rwa [hZl] at this
  have hlen : (H ++ (Z ++ T)).length = H.length + (t + m) + T.length := by simp [hZl]; omega
  have hSN : stOf (fun i => (H ++ (Z ++ T)).getD i 0) (H ++ (Z ++ T)).length = H.length ∧ ngOf (fun i => (H ++ (Z ++ T)).getD i 0) (H ++ (Z ++ T)).length = (s == 2) := by
    rw [hlen]
    unfold stOf ngOf
    by_cases e1 : s = 1
    · subst e1
      have e : H = [c, 43] := by rw [hH]; simp [sgnA, sgnB]
      subst e
      simp; omega
    · by_cases e2 : s = 2
      · subst e2
        have e : H = [c, 45] := by rw [hH]; simp [sgnA, sgnB]
        subst e
        simp; omega
      · have e : H = [c] := by rw [hH]; simp [sgnA, sgnB, e1, e2]
        have hd0 := dig_true (hdg 0 (by omega))
        have e0 := hfz 0 (by omega)
        subst e
        simp only [List.length_singleton, Nat.add_zero] at e0
        simp only [e0]
        have eb : (s == 2) = false := by simpa using e2
        rw [eb]
        constructor
        · rw [if_neg (by omega)]; rfl
        · exact decide_eq_false (by omega)
  obtain ⟨hS, hN⟩ := hSN
  generalize hfd : (fun i => (H ++ (Z ++ T)).getD i 0) = f at *
  have hfi : ∀ i, f i = (H ++ (Z ++ T)).getD i 0 := fun i => by rw [← hfd]
  generalize (H ++ (Z ++ T)).length = n at *
  intro kk hrk
  have hkk : kk = t + m := run_len hS (by omega) (fun i hi => by rw [hfi, hfz i hi]; exact hdg i hi) (fun hlt => by rw [hfi, hft]; exact hT (by omega)) hrk
  subst hkk
  have hne : t + m ≠ 0 := by omega
  rw [expRes_pos hne hS hN]
  refine ⟨magOf f H.length (t + m), by rw [hZl], ?_⟩
  have hb := magOf_bd f H.length (t + m) (fun i hi => by rw [hfi, hfz i hi]; exact hdg i hi)
  have h0 := mag_zero f H.length t (fun i hi => by rw [hfi, hfz i (by omega)]; exact hZ1 i hi)
  have hfin := mag_dig f v H.length t m (by rw [hm1]; exact hz) h0 (fun i hi => by rw [hfi, hfz (t + i) (by omega)]; exact hZ2 i hi) m (Nat.le_refl _)
  rw [Nat.sub_self] at hfin
  exact ⟨hfin.1, fun h => ⟨hfin.2 h, hb.2⟩⟩

end Go.Proofs.Qxb6000357a
