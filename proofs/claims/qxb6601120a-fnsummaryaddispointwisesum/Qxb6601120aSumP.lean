import Derived.Test.Qxb6601120aSumG
namespace Go.Proofs.Qxb6601120a
open Go.RowKit
open Go.Maps (Keyed has size Canon)
open Go.WideMaps
set_option linter.unusedVariables false

theorem wrap64_id_of_wf {v : Int} (h : (Lit.int .i64 v).wf = true) : wrap64 v = v := by
  simp only [Lit.wf, IntKind.min, IntKind.max, IntKind.signed, IntKind.bits, Bool.and_eq_true, decide_eq_true_eq, if_true] at h
  unfold wrap64
  omega

/-! ### how many keys a sum has -/
theorem length_le_of_nodup {α : Type} [DecidableEq α] : ∀ (l1 l2 : List α), l1.Nodup → (∀ x ∈ l1, x ∈ l2) → l1.length ≤ l2.length
  | [], _, _, _ => by simp
  | x :: r, l2, hn, hs => by
    obtain ⟨hx, hr⟩ := List.nodup_cons.1 hn
    have hm : x ∈ l2 := hs x (by simp)
    have h1 := length_le_of_nodup r (l2.erase x) hr (fun y hy => (List.mem_erase_of_ne (fun (e : y = x) => hx (e ▸ hy))).2 (hs y (by simp [hy])))
    rw [List.length_erase_of_mem hm] at h1
    have := List.length_pos_of_mem hm
    simp only [List.length_cons]
    omega

def keysOf (D : DataW Unit) : List Lit := match D with | .map es => es.map (·.1) | _ => []
theorem keys_length (D : DataW Unit) : (keysOf D).length = size D := by
  cases D <;> simp [keysOf, size]
theorem keys_nodup {D : DataW Unit} (h : Canon D) : (keysOf D).Nodup := by
  obtain ⟨es, rfl, h1, h2⟩ := h
  have := Maps.apart_of_rising h1
  exact List.pairwise_map.2 this
theorem mem_keys {D : DataW Unit} (h : Canon D) (k : Lit) : k ∈ keysOf D ↔ has D k = true := by
  obtain ⟨es, rfl, h1, h2⟩ := h
  simp only [keysOf, Maps.has_eq, List.mem_map, List.any_eq_true]
  constructor
  · rintro ⟨p, hp, rfl⟩
    exact ⟨p, hp, WideAt.sameKey_self (h2 p hp)⟩
  · rintro ⟨p, hp, hs⟩
    refine ⟨p, hp, ?_⟩
    apply Classical.byContradiction
    intro hne
    rw [Maps.sameKey_ne hne] at hs
    cases hs

open Classical in
theorem size_union {D D1 : DataW Unit} {X : List Lit} (h : Canon D) (h1 : Canon D1) (hx : X.Nodup) (hd : ∀ k ∈ X, has D1 k = false) (hh : ∀ k, has D k = true ↔ (has D1 k = true ∨ k ∈ X)) : size D = size D1 + X.length := by
  have e : (keysOf D1 ++ X).length = size D1 + X.length := by rw [List.length_append, keys_length]
  have hn : (keysOf D1 ++ X).Nodup := by
    refine List.nodup_append.2 ⟨keys_nodup h1, hx, ?_⟩
    intro a ha b hb hab
    subst hab
    have := (mem_keys h1 a).1 ha
    rw [hd a hb] at this
    cases this
  rw [← e, ← keys_length]
  refine Nat.le_antisymm (length_le_of_nodup _ _ (keys_nodup h) ?_) (length_le_of_nodup _ _ hn ?_)
  · intro x hx
    rcases (hh x).1 ((mem_keys h x).1 hx) with h | h
    · exact List.mem_append_left _ ((mem_keys h1 x).2 h)
    · exact List.mem_append_right _ h
  · intro x hx
    refine (mem_keys h x).2 ((hh x).2 ?_)
    rcases List.mem_append.1 hx with h | h
    · exact .inl ((mem_keys h1 x).1 h)
    · exact .inr h

/-! ### what a map built of entries has -/
theorem isMap_putAll : ∀ (es : List (ByteArray × Int)) (D : DataW Unit), Maps.IsMap D → Maps.IsMap (putAll D es)
  | [], _, h => h
  | e :: r, D, h => isMap_putAll r _ (h.put _ _)
theorem has_putAll (k : Lit) : ∀ (es : List (ByteArray × Int)) (D : DataW Unit), Maps.IsMap D → (has (putAll D es) k = true ↔ (has D k = true ∨ ∃ e ∈ es, k = keyLit e.1))
  | [], D, h => by simp [putAll]
  | e :: r, D, h => by
    have ih := has_putAll k r (D.put (keyLit e.1) (num e.2)) (h.put _ _)
    show has (putAll (D.put (keyLit e.1) (num e.2)) r) k = true ↔ _
    rw [ih]
    by_cases hk : k = keyLit e.1
    · subst hk
      rw [Maps.has_put_same h (isKey_lit _)]
      simp
    · rw [Maps.has_put_other hk]
      simp [hk]
theorem has_mapD (es : List (ByteArray × Int)) (k : Lit) : has (mapD es) k = true ↔ ∃ e ∈ es, k = keyLit e.1 := by
  unfold mapD
  rw [has_putAll k es _ Maps.isMap_empty]
  simp [has_nil]

open Classical in
/-- the keys of the entries that D1 has not, each once -/
noncomputable def extra (D1 : DataW Unit) (X : List Lit) (t : ByteArray) : List Lit := if has D1 (keyLit t) = true then X else if keyLit t ∈ X then X else X ++ [keyLit t]
noncomputable def extras (D1 : DataW Unit) (es : List (ByteArray × Int)) : List Lit := es.foldl (fun X e => extra D1 X e.1) []
theorem extras_take_succ (D1 : DataW Unit) {es : List (ByteArray × Int)} {i : Nat} {t : ByteArray} {m : Int} (he : es[i]? = some (t, m)) : extras D1 (es.take (i + 1)) = extra D1 (extras D1 (es.take i)) t := by
  obtain ⟨hi, hp⟩ := List.getElem?_eq_some_iff.1 he
  unfold extras
  rw [List.take_succ_eq_append_getElem hi, List.foldl_append, hp]
  rfl

structure ExtraOk (D1 : DataW Unit) (es : List (ByteArray × Int)) (X : List Lit) : Prop where
  nodup : X.Nodup
  apart : ∀ k ∈ X, has D1 k = false
  mem : ∀ k, k ∈ X ↔ (has D1 k = false ∧ ∃ e ∈ es, k = keyLit e.1)
open Classical in
theorem extra_ok {D1 : DataW Unit} {es : List (ByteArray × Int)} {X : List Lit} {t : ByteArray} {m : Int} (h : ExtraOk D1 es X) : ExtraOk D1 (es ++ [(t, m)]) (extra D1 X t) := by
  unfold extra
  by_cases h1 : has D1 (keyLit t) = true
  · rw [if_pos h1]
    refine ⟨h.nodup, h.apart, fun k => ?_⟩
    rw [h.mem k]
    constructor
    · rintro ⟨a, e, he, hk⟩; exact ⟨a, e, List.mem_append_left _ he, hk⟩
    · rintro ⟨a, e, he, hk⟩
      rcases List.mem_append.1 he with he | he
      · exact ⟨a, e, he, hk⟩
      · simp at he; subst he; rw [hk, h1] at a; cases a
  · rw [if_neg h1]
    have h1' : has D1 (keyLit t) = false := by simpa using h1
    by_cases h2 : keyLit t ∈ X
    · rw [if_pos h2]
      refine ⟨h.nodup, h.apart, fun k => ?_⟩
      constructor
      · intro hk
        obtain ⟨a, e, he, hk⟩ := (h.mem k).1 hk
        exact ⟨a, e, List.mem_append_left _ he, hk⟩
      · rintro ⟨a, e, he, hk⟩
        rcases List.mem_append.1 he with he | he
        · exact (h.mem k).2 ⟨a, e, he, hk⟩
        · simp at he; subst he; rw [hk]; exact h2
    · rw [if_neg h2]
      refine ⟨?_, ?_, fun k => ?_⟩
      · refine List.nodup_append.2 ⟨h.nodup, by simp, ?_⟩
        intro a ha b hb hab
        simp at hb
        subst hb; subst hab
        exact h2 ha
      · intro k hk
        rcases List.mem_append.1 hk with hk | hk
        · exact h.apart k hk
        · simp at hk; subst hk; exact h1'
      · rw [List.mem_append, h.mem k]
        constructor
        · rintro (⟨a, e, he, hk⟩ | hk)
          · exact ⟨a, e, List.mem_append_left _ he, hk⟩
          · simp at hk; subst hk; exact ⟨h1', (t, m), by simp, rfl⟩
        · rintro ⟨a, e, he, hk⟩
          rcases List.mem_append.1 he with he | he
          · exact .inl ⟨a, e, he, hk⟩
          · simp at he; subst he; exact .inr (by simp [hk])

theorem extras_ok (D1 : DataW Unit) (es : List (ByteArray × Int)) : ∀ i, i ≤ es.length → ExtraOk D1 (es.take i) (extras D1 (es.take i))
  | 0, _ => ⟨by simp [extras], by simp [extras], by simp [extras]⟩
  | i + 1, h => by
    have ih := extras_ok D1 es i (by omega)
    have hi : i < es.length := by omega
    obtain ⟨⟨t, m⟩, he⟩ : ∃ x, es[i] = x := ⟨_, rfl⟩
    have he' : es[i]? = some (t, m) := by rw [List.getElem?_eq_some_iff]; exact ⟨hi, he⟩
    rw [extras_take_succ D1 he', List.take_succ_eq_append_getElem hi, he]
    exact extra_ok ih

theorem has_sum {D D1 D2 : DataW Unit} (h : Adds D D1 D2 (fun _ => false)) (k : Lit) : has D k = (has D1 k || has D2 k) := by
  have := (h k).1
  simpa using this
theorem val_sum {D D1 D2 : DataW Unit} (h : Adds D D1 D2 (fun _ => false)) (k : Lit) (hw : (Lit.int .i64 (valAt D1 k)).wf = true) : valAt D k = adds (valAt D1 k) (valAt D2 k) := by
  have h2 := (h k).2
  by_cases h3 : has D2 k = true
  · rw [h3] at h2; simpa using h2
  · have h3' : has D2 k = false := by simpa using h3
    have e2 : valAt D2 k = 0 := valAt_of (Maps.atKey_of_not_has h3' _)
    rw [h3'] at h2
    rw [e2]
    have h4 : valAt D k = valAt D1 k := by simpa using h2
    rw [h4, adds, Int.add_zero, wrap64_id_of_wf hw]

theorem size_sum {D D1 D2 : DataW Unit} {es : List (ByteArray × Int)} (h : Adds D D1 D2 (fun _ => false)) (hD : Canon D) (hD1 : Canon D1) (e : D2 = mapD es) : size D = size D1 + (extras D1 es).length := by
  have hx := extras_ok D1 es es.length (Nat.le_refl _)
  rw [List.take_length] at hx
  refine size_union hD hD1 hx.nodup hx.apart (fun k => ?_)
  rw [has_sum h k, Bool.or_eq_true, e, has_mapD, hx.mem k]
  constructor
  · rintro (h | h)
    · exact .inl h
    · by_cases h1 : has D1 k = true
      · exact .inl h1
      · exact .inr ⟨by simpa using h1, h⟩
  · rintro (h | ⟨_, h⟩)
    · exact .inl h
    · exact .inr h

/-! ### the set 'extra' -/
def tru : DataW Unit := .lit (.bool true)
theorem isMap_setOf (X : List Lit) : Maps.IsMap (Maps.setOf tru X) := by
  have aux : ∀ (acc : List Lit) (m : DataW Unit), Maps.IsMap m → Maps.IsMap (acc.foldl (fun m x => m.put x tru) m) := by
    intro acc
    induction acc with
    | nil => intro m h; exact h
    | cons x r ih => intro m h; exact ih _ (h.put x tru)
  exact aux X _ Maps.isMap_empty
theorem atKey_set (X : List Lit) (t : ByteArray) (z : DataW Unit) : (keyLit t ∈ X → (Maps.setOf tru X).atKey (keyLit t) z = tru) ∧ (keyLit t ∉ X → (Maps.setOf tru X).atKey (keyLit t) z = z) := by
  have aux : ∀ L : List Lit, (keyLit t ∈ L.reverse → (Maps.setOf tru L.reverse).atKey (keyLit t) z = tru) ∧ (keyLit t ∉ L.reverse → (Maps.setOf tru L.reverse).atKey (keyLit t) z = z) := by
    intro L
    induction L with
    | nil => exact ⟨fun h => by simp at h, fun _ => rfl⟩
    | cons x r ih =>
      rw [List.reverse_cons, Maps.setOf_snoc]
      by_cases hk : keyLit t = x
      · subst hk
        rw [Maps.atKey_put_same (isMap_setOf _) (isKey_lit t)]
        exact ⟨fun _ => rfl, fun h => absurd (by simp) h⟩
      · rw [Maps.atKey_put_other hk]
        refine ⟨fun h => ih.1 ?_, fun h => ih.2 fun h2 => h (List.mem_append_left _ h2)⟩
        rcases List.mem_append.1 h with h | h
        · exact h
        · simp at h; exact absurd h hk
  have := aux X.reverse
  rwa [List.reverse_reverse] at this

def SetX (g n : Nat) (X : List Lit) (w : World) : Prop := w.ownsMap Try.prog 34 (plainElem Try.prog 4) g n (Maps.setOf tru X)
theorem zero4 (w : World) : (zeroValue 4).run Try.prog w = .ok (.bool false) w := by kernel_rfl
theorem plainElem_bool_inv {v : Value} {z : DataW Unit × List MemPlace} (h : plainElem Try.prog 4 v = some z) : ∃ x, v = .bool x ∧ z = (.lit (.bool x), []) := by
  unfold plainElem at h
  rw [Try.underlying4] at h
  cases v <;> simp at h
  exact ⟨_, rfl, h.symm⟩
theorem SetX.look {g n : Nat} {X : List Lit} {w : World} (h : SetX g n X w) {t : ByteArray} (ht : t.size ≤ maxLen) :
    ∃ q, (Instr.lookup 38 (.map (some g)) (.string t) false).run Try.prog w = .ok (.bool q) w ∧ (q = true → keyLit t ∈ X) ∧ (q = false → keyLit t ∉ X) := by
  obtain ⟨v, ps, hrun, hv⟩ := World.ownsMap.lookup h law34 Try.underlying38 (zero4 w) (plainElem_bool Try.underlying4 false) (key_of ht)
  obtain ⟨c, rfl, hc⟩ := plainElem_bool_inv hv
  have hc1 := congrArg Prod.fst hc
  refine ⟨c, hrun, ?_, ?_⟩
  · rintro rfl
    apply Classical.byContradiction
    intro hn
    have hc2 : (Maps.setOf tru X).atKey (keyLit t) (.lit (.bool false)) = .lit (.bool true) := hc1
    rw [(atKey_set X t _).2 hn] at hc2
    cases hc2
  · rintro rfl hm
    have hc2 : (Maps.setOf tru X).atKey (keyLit t) (.lit (.bool false)) = .lit (.bool false) := hc1
    rw [(atKey_set X t _).1 hm] at hc2
    cases hc2
theorem SetX.upd {g n : Nat} {X : List Lit} {w : World} (h : SetX g n X w) (hn : n < maxLen) {t : ByteArray} (ht : t.size ≤ maxLen) :
    ∃ w', (Instr.mapUpdate 38 (.map (some g)) (.string t) (.bool true)).run Try.prog w = .ok () w' ∧ SetX g (n + 1) (X ++ [keyLit t]) w' ∧ w.grownBy w' (some g) := by
  obtain ⟨w', h1, h2, h3⟩ := World.ownsMap.update h law34 Try.underlying38 hn (key_of ht) (plainElem_bool Try.underlying4 true)
  refine ⟨w', h1, ?_, h3⟩
  unfold SetX
  rw [Maps.setOf_snoc]
  exact h2

end Go.Proofs.Qxb6601120a
