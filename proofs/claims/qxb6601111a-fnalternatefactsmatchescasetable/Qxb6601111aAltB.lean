import Derived.Test.Qxb6601111aAltA
import Derived.Deep.DeepCutAuto
namespace Go.Proofs.Qxb6601111a
open Go.RowKit
set_option linter.unusedVariables false

/-- one part: its kind, its set's slice, its strings -/
structure Prt where
  kind : Int
  addr : Option Addr
  cap : Nat
  ss : List ByteArray

/-- the cells of a slice of parts -/
def PartsAt (w : World) (a : Option Addr) (ps : List Prt) : Prop :=
  ∀ i, i < ps.length → ∃ b off p, a = some ⟨b, off, none⟩ ∧ ps[i]? = some p ∧ w.cell? ⟨b, off + i * 2, none⟩ = some (.int .i64 p.kind) ∧ w.cell? ⟨b, off + i * 2 + 1, none⟩ = some (.slice p.addr p.ss.length p.cap) ∧ StrsAt w p.addr p.ss

/-- it returned a bool -/
def IsBool (e : Ending) : Prop := ∃ b, e = .returned (.bool b)

theorem zzB8 (a : Option Addr) (cap : Nat) (ps : List Prt) (w : World) (hn : ps.length ≤ 9223372036854775807) (hl : ∀ p ∈ ps, p.ss.length ≤ 9223372036854775807) (hs : ∀ p ∈ ps, ∀ s ∈ p.ss, s.size ≤ 9223372036854775807) (h : PartsAt w a ps) :
    Calls Try.prog 8 #[.slice a ps.length cap] w fun e w' => IsBool e ∧ w = w' := by
  have HP : Hid (PartsAt w a ps) := h
  have HL : Hid (∀ p ∈ ps, p.ss.length ≤ 9223372036854775807) := hl
  have HS : Hid (∀ p ∈ ps, ∀ s ∈ p.ss, s.size ≤ 9223372036854775807) := hs
  clear h hl hs
  by_cases hbig : 1048576 < ps.length
  · go_enter Try.func8, Try.ntmps8
    go_wp2
    go_ret
    exact ⟨⟨_, rfl⟩, rfl⟩
  · go_enter Try.func8, Try.ntmps8
    go_wp2
    go_loop [3, 4, 5] (fun v3 v4 _ => ∃ (i : Nat) (z : Int), i ≤ ps.length ∧ v4 = .int .i64 i ∧ v3 = .int .i64 z ∧ 0 ≤ z ∧ z ≤ 1048576) (fun _ v4 _ => ps.length - (intOf v4).toNat)
    case atStart => exact ⟨0, _, by omega, rfl, rfl, by omega, by omega⟩
    case round =>
      obtain ⟨i, z, hi, rfl, rfl, hz0, hz1⟩ := hrel
      by_cases hlt : i < ps.length
      · have hki : (i : Int) < (ps.length : Int) := by omega
        obtain ⟨b, off, p, rfl, hp, hc0, hc1, hst⟩ := HP.out i hlt
        have hpl := HL.out p (List.mem_of_getElem? hp)
        have hps := HS.out p (List.mem_of_getElem? hp)
        have HST : Hid (StrsAt w p.addr p.ss) := hst
        have HPS : Hid (∀ s ∈ p.ss, s.size ≤ 9223372036854775807) := hps
        clear hst hp hps
        obtain ⟨kd, pa, pc, ss⟩ := p
        dsimp only at hc0 hc1 hpl HST HPS
        by_cases hb1 : 1048576 < ss.length
        · go_wp2
          go_ret
          exact ⟨⟨_, rfl⟩, rfl⟩
        · by_cases hb2 : 1048576 < z + ss.length
          · go_wp2
            go_ret
            exact ⟨⟨_, rfl⟩, rfl⟩
          · go_wp2
            go_loop [3, 5] (fun v3 v5 => ∃ (j : Nat) (y : Int), j ≤ ss.length ∧ v5 = .int .i64 j ∧ v3 = .int .i64 y ∧ 0 ≤ y ∧ y ≤ 1048576) (fun _ v5 => ss.length - (intOf v5).toNat)
            case atStart => exact ⟨0, _, by omega, rfl, rfl, by omega, by omega⟩
            case round =>
              obtain ⟨j, y, hj, rfl, rfl, hy0, hy1⟩ := hrel
              by_cases hjl : j < ss.length
              · have hji : (j : Int) < (ss.length : Int) := by omega
                obtain ⟨b', off', rfl, hcs⟩ := HST.out j hjl
                obtain ⟨t, ht⟩ : ∃ t, t = ss.getD j ByteArray.empty := ⟨_, rfl⟩
                have htl : t.size ≤ 9223372036854775807 := HPS.out t (by rw [ht]; simp [List.getD, hjl])
                rw [← ht] at hcs
                clear ht
                by_cases hb3 : 1048576 < t.size
                · go_wp2
                  go_ret
                  exact ⟨⟨_, rfl⟩, rfl⟩
                · by_cases hb4 : 1048576 < y + t.size
                  · go_wp2
                    go_ret
                    exact ⟨⟨_, rfl⟩, rfl⟩
                  · go_wp2
                    go_round
                    case rel => exact ⟨j + 1, _, by omega, by go_num, rfl, by omega, by omega⟩
                    case measure => simp [intOf]; omega
              · have hji : decide ((j : Int) < (ss.length : Int)) = false := decide_eq_false (by omega)
                go_wp2
                go_round
                case rel => exact ⟨i + 1, y, by omega, by go_num, rfl, by omega, by omega⟩
                case measure => simp [intOf]; omega
      · have hki : decide ((i : Int) < (ps.length : Int)) = false := decide_eq_false (by omega)
        go_wp2
        go_ret
        exact ⟨⟨_, rfl⟩, rfl⟩

/-- what the sets' headers weigh -/
def wt (ps : List Prt) : Nat := (ps.map fun p => 16 * p.ss.length).sum
theorem wt_take_succ {ps : List Prt} {i : Nat} {p : Prt} (h : ps[i]? = some p) : wt (ps.take (i + 1)) = wt (ps.take i) + 16 * p.ss.length := by
  obtain ⟨hi, hp⟩ := List.getElem?_eq_some_iff.1 h
  unfold wt
  rw [List.take_succ_eq_append_getElem hi, List.map_append, List.sum_append, hp]
  simp

/-- partsFit's answer: false; or true, and the parts are few -/
def FitRes (ps : List Prt) (e : Ending) : Prop := e = .returned (.bool false) ∨ (e = .returned (.bool true) ∧ 32 * ps.length + wt ps ≤ 1048576)

set_option maxHeartbeats 400000 in
theorem fit_any (a : Option Addr) (cap : Nat) (ps : List Prt) (w : World) (hn : ps.length ≤ 9223372036854775807) (hl : ∀ p ∈ ps, p.ss.length ≤ 9223372036854775807) (hs : ∀ p ∈ ps, ∀ s ∈ p.ss, s.size ≤ 9223372036854775807) (h : PartsAt w a ps) :
    Calls Try.prog 9 #[.slice a ps.length cap] w fun e w' => FitRes ps e ∧ w = w' := by
  have HP : Hid (PartsAt w a ps) := h
  have HL : Hid (∀ p ∈ ps, p.ss.length ≤ 9223372036854775807) := hl
  have HS : Hid (∀ p ∈ ps, ∀ s ∈ p.ss, s.size ≤ 9223372036854775807) := hs
  clear h hl hs
  by_cases hbig : 32768 < ps.length
  · go_enter Try.func9, Try.ntmps9
    go_wp2
    go_ret
    exact ⟨.inl rfl, rfl⟩
  · go_enter Try.func9, Try.ntmps9
    go_wp2
    go_loop [3, 4] (fun v3 v4 => ∃ (i : Nat) (z : Int), i ≤ ps.length ∧ v4 = .int .i64 i ∧ v3 = .int .i64 z ∧ 0 ≤ z ∧ z ≤ 1048576 ∧ Hid ((32 * ps.length + wt (ps.take i) : Nat) ≤ z)) (fun _ v4 => ps.length - (intOf v4).toNat)
    case atStart => exact ⟨0, _, by omega, rfl, rfl, by omega, by omega, by simp [Hid, wt]⟩
    case round =>
      obtain ⟨i, z, hi, rfl, rfl, hz0, hz1, HW⟩ := hrel
      by_cases hlt : i < ps.length
      · have hki : (i : Int) < (ps.length : Int) := by omega
        obtain ⟨b, off, p, rfl, hp, hc0, hc1, hst⟩ := HP.out i hlt
        have hpl := HL.out p (List.mem_of_getElem? hp)
        have hps := HS.out p (List.mem_of_getElem? hp)
        have HST : Hid (StrsAt w p.addr p.ss) := hst
        have HPS : Hid (∀ s ∈ p.ss, s.size ≤ 9223372036854775807) := hps
        have HWS : Hid (wt (ps.take (i + 1)) = wt (ps.take i) + 16 * p.ss.length) := wt_take_succ hp
        clear hst hp hps
        obtain ⟨kd, pa, pc, ss⟩ := p
        dsimp only at hc0 hc1 hpl HST HPS HWS
        by_cases hb1 : 65536 < ss.length
        · go_wp2
          go_ret
          exact ⟨.inl rfl, rfl⟩
        · by_cases hb2 : 1048576 < z + 16 * ss.length
          · go_wp2
            go_ret
            exact ⟨.inl rfl, rfl⟩
          · go_wp2
            go_loop [3, 6] (fun v3 v6 => ∃ (j : Nat) (y : Int), j ≤ ss.length ∧ v6 = .int .i64 j ∧ v3 = .int .i64 y ∧ z + 16 * ss.length ≤ y ∧ y ≤ 1048576) (fun _ v6 => ss.length - (intOf v6).toNat)
            case atStart => exact ⟨0, _, by omega, rfl, rfl, by omega, by omega⟩
            case round =>
              obtain ⟨j, y, hj, rfl, rfl, hy0, hy1⟩ := hrel
              by_cases hjl : j < ss.length
              · have hji : (j : Int) < (ss.length : Int) := by omega
                obtain ⟨b', off', rfl, hcs⟩ := HST.out j hjl
                obtain ⟨t, ht⟩ : ∃ t, t = ss.getD j ByteArray.empty := ⟨_, rfl⟩
                have htl : t.size ≤ 9223372036854775807 := HPS.out t (by rw [ht]; simp [List.getD, hjl])
                rw [← ht] at hcs
                clear ht
                by_cases hb3 : 1048576 < t.size
                · go_wp2
                  go_ret
                  exact ⟨.inl rfl, rfl⟩
                · by_cases hb4 : 1048576 < y + t.size
                  · go_wp2
                    go_ret
                    exact ⟨.inl rfl, rfl⟩
                  · go_wp2
                    go_round
                    case rel => exact ⟨j + 1, _, by omega, by go_num, rfl, by omega, by omega⟩
                    case measure => simp [intOf]; omega
              · have hji : decide ((j : Int) < (ss.length : Int)) = false := decide_eq_false (by omega)
                have HW2 : Hid ((32 * ps.length + wt (ps.take (i + 1)) : Nat) ≤ y) := by
                  have h1 := HW.out
                  have h2 := HWS.out
                  rw [Hid, h2]
                  omega
                go_wp2
                go_round
                case rel => exact ⟨i + 1, y, by omega, by go_num, rfl, by omega, by omega, HW2⟩
                case measure => simp [intOf]; omega
      · have hki : decide ((i : Int) < (ps.length : Int)) = false := decide_eq_false (by omega)
        have HF : Hid (32 * ps.length + wt ps ≤ 1048576) := by
          have h1 := HW.out
          rw [List.take_of_length_le (by omega)] at h1
          rw [Hid]; omega
        go_wp2
        go_ret
        exact ⟨.inr ⟨rfl, HF.out⟩, rfl⟩

end Go.Proofs.Qxb6601111a
