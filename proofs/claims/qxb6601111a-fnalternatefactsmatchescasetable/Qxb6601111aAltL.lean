import Derived.Test.Qxb6601111aAltG
import Derived.Test.Qxb6601111aAltH
namespace Go.Proofs.Qxb6601111a
open Go.RowKit
set_option linter.unusedVariables false

theorem wt_of_key {ps qs : List Prt} (h : qs.map key = ps.map key) : wt qs = wt ps := by rw [← cnt_wt, ← cnt_wt, h]
theorem length_of_key {ps qs : List Prt} (h : qs.map key = ps.map key) : qs.length = ps.length := by have := congrArg List.length h; simpa using this
theorem sizes_of_key {ps qs : List Prt} (h : qs.map key = ps.map key) (hs : ∀ p ∈ ps, ∀ s ∈ p.ss, s.size ≤ maxLen) : ∀ p ∈ qs, ∀ s ∈ p.ss, s.size ≤ maxLen := by
  intro p hp s hs'
  have h1 : key p ∈ ps.map key := by rw [← h]; exact List.mem_map_of_mem hp
  obtain ⟨q, hq, e⟩ := List.mem_map.1 h1
  have e2 : q.ss = p.ss := congrArg Prod.snd e
  exact hs q hq s (by rw [e2]; exact hs')

/-- what the law is told of its argument -/
structure Arg (w : World) (a : Option Addr) (cap : Nat) (ps : List Prt) : Prop where
  n : ps.length ≤ 9223372036854775807
  len : ∀ p ∈ ps, p.ss.length ≤ 9223372036854775807
  sz : ∀ p ∈ ps, ∀ s ∈ p.ss, s.size ≤ 9223372036854775807
  parts : PartsAt w a ps
  nils : ∀ p ∈ ps, p.addr = none → p.ss = [] ∧ p.cap = 0
  nil : a = none → ps = [] ∧ cap = 0

set_option maxHeartbeats 1000000 in
theorem alternate_core (a : Option Addr) (cap : Nat) (ps : List Prt) (w : World) (h : Arg w a cap ps) :
    Calls Try.prog 3 #[.slice a ps.length cap] w fun e w' => e = .returned (.bool true) ∧ Below w.heap.size w w' := by
  have hnb := h.n
  have HA : Hid (Arg w a cap ps) := h
  have hne := fun (w : World) (a : Option Addr) (n c : Nat) => Lib.run_eql_slice_nil (P := Try.prog) w 29 9 a n c 0 0 Try.underlying29
  clear h
  go_enter Try.func3, Try.ntmps3
  go_wp2_with fail
  refine (zzB8 a cap ps w HA.out.n HA.out.len HA.out.sz HA.out.parts).mono ?_
  rintro e w' ⟨⟨b0, rfl⟩, hw⟩
  obtain rfl := hw
  cases b0
  · go_wp2
    go_ret
    exact ⟨rfl, Below.refl _ _⟩
  go_wp2_with fail
  refine (fit_any a cap ps w HA.out.n HA.out.len HA.out.sz HA.out.parts).mono ?_
  rintro e w' ⟨hfit, hw⟩
  obtain rfl := hw
  rcases hfit with rfl | ⟨rfl, hfit⟩
  · go_wp2
    go_ret
    exact ⟨rfl, Below.refl _ _⟩
  have HFIT : Hid (32 * ps.length + wt ps ≤ 1048576) := hfit
  clear hfit
  go_wp2_with fail
  refine (clone_parts a cap ps w HFIT.out HA.out.parts (fun p hp => by have := wt_mem hp; have := HFIT.out; omega) HA.out.nils HA.out.nil).mono ?_
  rintro e w1 ⟨a1, c1, PS, rfl, hps1, hkey, hb1⟩
  have HP1 : Hid (PartsAt w1 a1 PS) := hps1
  have HK : Hid (PS.map key = ps.map key) := hkey
  have HB1 : Hid (Below w.heap.size w w1) := hb1
  have HF1 : Hid (32 * PS.length + wt PS ≤ 1048576) := by rw [Hid, wt_of_key hkey, length_of_key hkey]; exact HFIT.out
  have HZ1 : Hid (∀ p ∈ PS, ∀ s ∈ p.ss, s.size ≤ maxLen) := sizes_of_key hkey (by unfold maxLen; exact HA.out.sz)
  clear hps1 hkey hb1
  go_wp2_with fail
  refine (split_any a1 c1 PS w1 (by have := HF1.out; omega) HP1.out).mono ?_
  rintro e w2 ⟨kg, sg, rfl, hsp, hb2⟩
  have HSP : Hid (SplitAt w2 kg sg PS) := hsp
  have HB2 : Hid (Below w1.heap.size w1 w2) := hb2
  clear hsp hb2
  go_wp2_with fail
  refine (zzalt_any kg sg PS w2 HF1.out HSP.out HZ1.out).mono ?_
  rintro e w3 ⟨a3, c3, rfl, hst3, hnil3, hb3⟩
  have HS3 : Hid (StrsAt w3 a3 (altD (PS.map key))) := hst3
  have HN3 : Hid (a3 = none ↔ altD (PS.map key) = []) := hnil3
  have HB3 : Hid (Below w1.heap.size w1 w3) := HB2.out.trans (hb3.mono HB2.out.size)
  clear hst3 hnil3 hb3
  go_wp2_with fail
  refine (modelAlt_any a1 c1 PS w3 HF1.out (HP1.out.below HB3.out)).mono ?_
  rintro e w4 ⟨a4, c4, rfl, hst4, hb4⟩
  have HS4 : Hid (StrsAt w4 a4 (altD (PS.map key))) := hst4
  have HS3' : Hid (StrsAt w4 a3 (altD (PS.map key))) := HS3.out.below hb4
  have HB4 : Hid (Below w.heap.size w w4) := HB1.out.trans ((HB3.out.trans (hb4.mono HB3.out.size)).mono HB1.out.size)
  have hDl : (altD (PS.map key)).length ≤ 1048576 := by
    have h1 := dist_cnt (PS.map key)
    have h2 := cnt_wt PS
    have h3 := HF1.out
    unfold altD
    split
    · omega
    · split
      · simp
      · omega
  clear hst4 hb4
  have hk0 : (altK (PS.map key) != altK (PS.map key)) = false := by simp
  generalize altK (PS.map key) = K at *
  generalize altD (PS.map key) = D at *
  cases a3 with
  | none =>
    obtain rfl := HN3.out.1 rfl
    rw [List.length_nil]
    go_wp2_with fail
    refine (same_any none a4 c3 c4 [] w4 (by simp) HS3'.out HS4.out).mono ?_
    rintro e w5 ⟨rfl, n5, rfl⟩
    go_wp2
    go_ret
    exact ⟨rfl, drewN_below HB4.out _⟩
  | some x =>
    have hD0 : ((D.length : Int) == 0) = false := by
      have h0 : D ≠ [] := fun e => by have := HN3.out.2 e; cases this
      have h1 := List.length_pos_iff.2 h0
      exact beq_eq_false_iff_ne.2 (by omega)
    go_wp2_with fail
    refine (same_any (some x) a4 c3 c4 D w4 hDl HS3'.out HS4.out).mono ?_
    rintro e w5 ⟨rfl, n5, rfl⟩
    go_wp2
    go_ret
    exact ⟨rfl, drewN_below HB4.out _⟩

end Go.Proofs.Qxb6601111a
