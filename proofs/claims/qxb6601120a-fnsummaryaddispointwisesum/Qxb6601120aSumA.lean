import Derived.Test.Qxb6601120aRows
import Derived.WalkKit
import Derived.WalkLawsBesides
import Derived.WalkSpells
namespace Go.Proofs.Qxb6601120a
open Go.RowKit
set_option linter.unusedVariables false

/-- the cells of a slice of entries -/
def EntsAt (w : World) (a : Option Addr) (es : List (ByteArray × Int)) : Prop :=
  ∀ i, i < es.length → ∃ b off e, a = some ⟨b, off, none⟩ ∧ es[i]? = some e ∧ b < w.heap.size ∧ w.cell? ⟨b, off + i * 2, none⟩ = some (.string e.1) ∧ w.cell? ⟨b, off + i * 2 + 1, none⟩ = some (.int .i64 e.2)

theorem cell_alloc (w : World) (o : Obj) {p : Addr} (h : p.block < w.heap.size) : (w.alloc o).cell? p = w.cell? p :=
  World.cell?_of_block (w := w) (Below.heap_alloc _ _ _ h)

theorem EntsAt.below {w w' : World} {a : Option Addr} {es : List (ByteArray × Int)} (h : EntsAt w a es) (hb : Below w.heap.size w w') : EntsAt w' a es := by
  intro i hi
  obtain ⟨b, off, e, h1, h2, h3, h4, h5⟩ := h i hi
  exact ⟨b, off, e, h1, h2, Nat.lt_of_lt_of_le h3 hb.size, by rw [hb.cell h3]; exact h4, by rw [hb.cell h3]; exact h5⟩
theorem EntsAt.alloc {w : World} {a : Option Addr} {es : List (ByteArray × Int)} (h : EntsAt w a es) (o : Obj) : EntsAt (w.alloc o) a es :=
  h.below ((Below.refl _ _).alloc (Nat.le_refl _) o)

def SizesOk (es : List (ByteArray × Int)) : Prop := ∀ e ∈ es, e.1.size ≤ 9223372036854775807
def Small (es : List (ByteArray × Int)) : Prop := es.length ≤ 1048576 ∧ ∀ e ∈ es, e.1.size ≤ 1048576

/-- it returned a number, not too great -/
def IsSum (e : Ending) : Prop := ∃ z, e = .returned (.int .i64 z) ∧ 0 ≤ z ∧ z ≤ 1073741824

theorem bytes7 (a : Option Addr) (cap : Nat) (es : List (ByteArray × Int)) (nb : Bool) (n1 n2 n3 n4 n5 : Int) (w : World) (hn : es.length ≤ 9223372036854775807) (hs : SizesOk es) (h : EntsAt w a es) :
    Calls Try.prog 7 #[.agg #[.slice a es.length cap, .bool nb, .int .i64 n1, .int .i64 n2, .int .i64 n3, .int .i64 n4, .int .i64 n5]] w fun e w' => IsSum e ∧ Below w.heap.size w w' := by
  have HP : Hid (EntsAt w a es) := h
  have HS : Hid (SizesOk es) := hs
  have HB : ∀ o, Hid (Below w.heap.size w (w.alloc o)) := fun o => (Below.refl _ _).alloc (Nat.le_refl _) o
  clear h hs
  by_cases hbig : 65536 < es.length
  · go_enter Try.func7, Try.ntmps7
    go_wp2
    go_ret
    exact ⟨⟨_, rfl, by omega, by omega⟩, (HB _).out⟩
  · go_enter Try.func7, Try.ntmps7
    go_wp2
    go_loop [3, 4, 5] (fun v3 v4 _ => ∃ (i : Nat) (z : Int), i ≤ es.length ∧ v4 = .int .i64 i ∧ v3 = .int .i64 z ∧ 0 ≤ z ∧ z ≤ 1572864) (fun _ v4 _ => es.length - (intOf v4).toNat)
    case atStart => exact ⟨0, _, by omega, rfl, rfl, by omega, by omega⟩
    case round =>
      obtain ⟨i, z, hi, rfl, rfl, hz0, hz1⟩ := hrel
      by_cases hlt : i < es.length
      · have hki : (i : Int) < (es.length : Int) := by omega
        obtain ⟨b, off, e, rfl, he, hb, hc0, hc1⟩ := HP.out i hlt
        have hel := HS.out e (List.mem_of_getElem? he)
        clear he
        obtain ⟨t, m⟩ := e
        dsimp only at hc0 hc1 hel
        by_cases hb1 : 1048576 < t.size
        · go_wp2
          go_ret
          exact ⟨⟨_, rfl, by omega, by omega⟩, (HB _).out⟩
        · by_cases hb2 : 1048576 < z + t.size
          · go_wp2
            go_ret
            exact ⟨⟨_, rfl, by omega, by omega⟩, (HB _).out⟩
          · go_wp2
            go_round
            case rel => exact ⟨i + 1, _, by omega, by go_num, rfl, by omega, by omega⟩
            case measure => simp [intOf]; omega
      · have hki : decide ((i : Int) < (es.length : Int)) = false := decide_eq_false (by omega)
        go_wp2
        go_ret
        exact ⟨⟨_, rfl, by omega, by omega⟩, (HB _).out⟩

/-- false; or true, and both lists are small -/
def FitRes (es es' : List (ByteArray × Int)) (e : Ending) : Prop := e = .returned (.bool false) ∨ (e = .returned (.bool true) ∧ Small es ∧ Small es')

def Upto (es : List (ByteArray × Int)) (i : Nat) : Prop := ∀ e ∈ es.take i, e.1.size ≤ 1048576
theorem Upto.zero (es : List (ByteArray × Int)) : Upto es 0 := by intro e he; simp at he
theorem Upto.step {es : List (ByteArray × Int)} {i : Nat} {t : ByteArray} {m : Int} (h : Upto es i) (he : es[i]? = some (t, m)) (ht : t.size ≤ 1048576) : Upto es (i + 1) := by
  obtain ⟨hi, hp⟩ := List.getElem?_eq_some_iff.1 he
  intro e hm
  rw [List.take_succ_eq_append_getElem hi, hp] at hm
  rcases List.mem_append.1 hm with hm | hm
  · exact h e hm
  · simp at hm; subst hm; exact ht
theorem Upto.small {es : List (ByteArray × Int)} {i : Nat} (h : Upto es i) (hi : ¬ i < es.length) (hl : ¬ 1048576 < es.length) : Small es := by
  unfold Upto at h
  rw [List.take_of_length_le (by omega)] at h
  exact ⟨by omega, h⟩

set_option maxHeartbeats 400000 in
theorem bytes6 (a : Option Addr) (cap : Nat) (es : List (ByteArray × Int)) (nb : Bool) (n1 n2 n3 n4 n5 : Int) (a' : Option Addr) (cap' : Nat) (es' : List (ByteArray × Int)) (nb' : Bool) (m1 m2 m3 m4 m5 : Int) (w : World)
    (hn : es.length ≤ 9223372036854775807) (hs : SizesOk es) (h : EntsAt w a es) (hn' : es'.length ≤ 9223372036854775807) (hs' : SizesOk es') (h' : EntsAt w a' es') :
    Calls Try.prog 6 #[.agg #[.slice a es.length cap, .bool nb, .int .i64 n1, .int .i64 n2, .int .i64 n3, .int .i64 n4, .int .i64 n5], .agg #[.slice a' es'.length cap', .bool nb', .int .i64 m1, .int .i64 m2, .int .i64 m3, .int .i64 m4, .int .i64 m5]] w
      fun e w' => FitRes es es' e ∧ Below w.heap.size w w' := by
  have HP : Hid (EntsAt w a es) := h
  have HS : Hid (SizesOk es) := hs
  have HP' : Hid (EntsAt w a' es') := h'
  have HS' : Hid (SizesOk es') := hs'
  have HB : ∀ o o', Hid (Below w.heap.size w ((w.alloc o).alloc o')) := fun o o' => ((Below.refl _ _).alloc (Nat.le_refl _) o).alloc (by simp) o'
  clear h hs h' hs'
  by_cases hbig : 1048576 < es.length
  · go_enter Try.func6, Try.ntmps6
    go_wp2
    go_ret
    exact ⟨.inl rfl, (HB _ _).out⟩
  · go_enter Try.func6, Try.ntmps6
    go_wp2
    go_loop [5, 6] (fun v5 v6 => ∃ (i : Nat) (z : Int), i ≤ es.length ∧ v6 = .int .i64 i ∧ v5 = .int .i64 z ∧ 0 ≤ z ∧ z ≤ 1048576 ∧ Hid (Upto es i)) (fun _ v6 => es.length - (intOf v6).toNat)
    case atStart => exact ⟨0, _, by omega, rfl, rfl, by omega, by omega, Upto.zero es⟩
    case round =>
      obtain ⟨i, z, hi, rfl, rfl, hz0, hz1, HU⟩ := hrel
      by_cases hlt : i < es.length
      · have hki : (i : Int) < (es.length : Int) := by omega
        obtain ⟨b, off, e, rfl, he, hb, hc0, hc1⟩ := HP.out i hlt
        have hel := HS.out e (List.mem_of_getElem? he)
        obtain ⟨t, m⟩ := e
        dsimp only at hc0 hc1 hel
        by_cases hb1 : 1048576 < t.size
        · clear he
          go_wp2
          go_ret
          exact ⟨.inl rfl, (HB _ _).out⟩
        · have HU2 : Hid (Upto es (i + 1)) := HU.out.step he (by omega)
          clear he
          by_cases hb2 : 1048576 < z + t.size
          · go_wp2
            go_ret
            exact ⟨.inl rfl, (HB _ _).out⟩
          · go_wp2
            go_round
            case rel => exact ⟨i + 1, _, by omega, by go_num, rfl, by omega, by omega, HU2⟩
            case measure => simp [intOf]; omega
      · have hki : decide ((i : Int) < (es.length : Int)) = false := decide_eq_false (by omega)
        have HSM : Hid (Small es) := HU.out.small hlt hbig
        by_cases hbig' : 1048576 < es'.length
        · go_wp2
          go_ret
          exact ⟨.inl rfl, (HB _ _).out⟩
        by_cases hbig2 : 1048576 < z + es'.length
        · go_wp2
          go_ret
          exact ⟨.inl rfl, (HB _ _).out⟩
        go_wp2
        go_loop [5, 7] (fun v5 v7 => ∃ (i : Nat) (z : Int), i ≤ es'.length ∧ v7 = .int .i64 i ∧ v5 = .int .i64 z ∧ 0 ≤ z ∧ z ≤ 1048576 ∧ Hid (Upto es' i)) (fun _ v7 => es'.length - (intOf v7).toNat)
        case atStart => exact ⟨0, _, by omega, rfl, rfl, by omega, by omega, Upto.zero es'⟩
        case round =>
          clear HU hki hz0 hz1
          obtain ⟨j, z, hj, rfl, rfl, hz0, hz1, HU⟩ := hrel
          by_cases hlt' : j < es'.length
          · have hki : (j : Int) < (es'.length : Int) := by omega
            obtain ⟨b, off, e, rfl, he, hb, hc0, hc1⟩ := HP'.out j hlt'
            have hel := HS'.out e (List.mem_of_getElem? he)
            obtain ⟨t, m⟩ := e
            dsimp only at hc0 hc1 hel
            by_cases hb1 : 1048576 < t.size
            · clear he
              go_wp2
              go_ret
              exact ⟨.inl rfl, (HB _ _).out⟩
            · have HU2 : Hid (Upto es' (j + 1)) := HU.out.step he (by omega)
              clear he
              by_cases hb2 : 1048576 < z + t.size
              · go_wp2
                go_ret
                exact ⟨.inl rfl, (HB _ _).out⟩
              · go_wp2
                go_round
                case rel => exact ⟨j + 1, _, by omega, by go_num, rfl, by omega, by omega, HU2⟩
                case measure => simp [intOf]; omega
          · have hki : decide ((j : Int) < (es'.length : Int)) = false := decide_eq_false (by omega)
            have HSM' : Hid (Small es') := HU.out.small hlt' hbig'
            go_wp2
            go_ret
            exact ⟨.inr ⟨rfl, HSM.out, HSM'.out⟩, (HB _ _).out⟩

end Go.Proofs.Qxb6601120a
