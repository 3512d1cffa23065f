import Derived.Test.Qxb6000357aStops
import Derived.Test.Qxb6000357aWordP
namespace Go.Proofs.Qxb6000357a
open Go.RowKit
set_option linter.unusedVariables false

theorem Try.info27 : (Try.prog.info? 27).map (fun i => (i.zero, i.size, i.bytes)) = some (some (.int .u64 0), 1, 8) := by kernel_rfl

theorem ret_u64 {a b : Int} (h : a = b) : Ending.returned (.int .u64 a) = .returned (.int .u64 b) := by rw [h]

theorem bit_any (g n cap : Nat) (F : Nat → Nat) (p : Int) (w : World) (hn : n ≤ 65536) (hF : ∀ j, j < n → F j < 2 ^ 64)
    (hc : ∀ j, j < n → w.cell? ⟨g, j, none⟩ = some (.int .u64 (F j : Int))) :
    Calls Try.prog 22 #[.slice (some ⟨g, 0, none⟩) n cap, .int .i64 p] w fun e w' => e = .returned (.int .u64 (bitN F n p : Int)) ∧ w = w' := by
  by_cases h0 : p < 0
  · rw [bitN_out (by omega)]
    clear hc hF
    go_enter Try.func22, Try.ntmps22
    go_wp2
    go_ret
    exact ⟨rfl, rfl⟩
  have hd0 : decide (p < 0) = false := decide_eq_false h0
  by_cases h1 : 64 * (n : Int) ≤ p
  · rw [bitN_out (by omega)]
    clear hc hF h0
    go_enter Try.func22, Try.ntmps22
    go_wp2
    go_ret
    exact ⟨rfl, rfl⟩
  have hd1 : decide (64 * (n : Int) ≤ p) = false := decide_eq_false h1
  obtain ⟨q, rfl⟩ := Int.eq_ofNat_of_zero_le (show 0 ≤ p by omega)
  have hq : ((q / 64 : Nat) : Int) < (n : Int) := by omega
  have hcq := hc (q / 64) (by omega)
  have hFq := hF (q / 64) (by omega)
  have HF : Hid (F (q / 64) < 2 ^ 64) := hFq
  have hF2 : (F (q / 64) : Int) ≤ 18446744073709551615 := by have : F (q / 64) < 18446744073709551616 := hFq; omega
  have HB : Hid (bitN F n (q : Int) = F (q / 64) / 2 ^ (q % 64) % 2) := bitN_in q rfl (by omega)
  clear hc hF hFq h0 h1
  go_enter Try.func22, Try.ntmps22
  go_wp2
  go_ret
  refine ⟨ret_u64 ?_, rfl⟩
  rw [HB.out, div_pow_cast, and_one_nat _ (Nat.lt_of_le_of_lt (Nat.div_le_self _ _) HF.out)]

theorem word_any (g n cap : Nat) (F : Nat → Nat) (i : Int) (w : World) (hn : n ≤ 65536) (hn0 : 0 < n) (hF : ∀ j, j < n → F j < 2 ^ 64) (hi0 : -9223372036854775808 ≤ i) (hi : i < 64 * (n : Int))
    (hc : ∀ j, j < n → w.cell? ⟨g, j, none⟩ = some (.int .u64 (F j : Int))) :
    Calls Try.prog 27 #[.slice (some ⟨g, 0, none⟩) n cap, .int .i64 i] w fun e w' => e = .returned (.int .u64 (wordN F n i : Int)) ∧ w = w' := by
  by_cases h1 : i ≤ -64
  · rw [wordN_low h1]
    clear hc hF
    go_enter Try.func27, Try.ntmps27
    go_wp2
    go_ret
    exact ⟨rfl, rfl⟩
  have hd1 : decide (i ≤ -64) = false := decide_eq_false h1
  by_cases h2 : i < 0
  · have HW : Hid (wordN F n i = F 0 * 2 ^ (-i).toNat % 2 ^ 64) := wordN_neg h1 h2
    have hq : (0 : Int) < (n : Int) := by omega
    have hc0 := hc 0 hn0
    clear hc hF
    go_enter Try.func27, Try.ntmps27
    go_wp2
    go_ret
    refine ⟨ret_u64 ?_, rfl⟩
    rw [HW.out, shl_cast]
  have hd2 : decide (i < 0) = false := decide_eq_false h2
  obtain ⟨j, rfl⟩ := Int.eq_ofNat_of_zero_le (show 0 ≤ i by omega)
  have hq : ((j / 64 : Nat) : Int) < (n : Int) := by omega
  have hcj := hc (j / 64) (by omega)
  have hFj : F (j / 64) < 2 ^ 64 := hF (j / 64) (by omega)
  have HF : Hid (F (j / 64) < 2 ^ 64) := hFj
  have hF2 : (F (j / 64) : Int) ≤ 18446744073709551615 := by have : F (j / 64) < 18446744073709551616 := hFj; omega
  clear hFj h1 h2
  by_cases h3 : 0 < j % 64
  · have h3i : (0 : Int) < (j : Int) % 64 := by omega
    by_cases h4 : j / 64 + 1 < n
    · have h4i : (j : Int) / 64 + 1 < (n : Int) := by omega
      have hcj2 := hc (j / 64 + 1) h4
      have HW : Hid (wordN F n (j : Int) = (F (j / 64) / 2 ^ (j % 64)) ||| (F (j / 64 + 1) * 2 ^ (64 - j % 64) % 2 ^ 64)) := wordN_two ⟨h3, h4⟩
      clear hc hF
      go_enter Try.func27, Try.ntmps27
      go_wp2
      go_ret
      refine ⟨ret_u64 ?_, rfl⟩
      rw [HW.out, div_pow_cast, shl_cast, or_cast _ _ (Nat.lt_of_le_of_lt (Nat.div_le_self _ _) HF.out) (Nat.mod_lt _ (by decide))]
    · have h4i : decide ((j : Int) / 64 + 1 < (n : Int)) = false := decide_eq_false (by omega)
      have HW : Hid (wordN F n (j : Int) = F (j / 64) / 2 ^ (j % 64)) := wordN_one (fun h => h4 h.2)
      clear hc hF
      go_enter Try.func27, Try.ntmps27
      go_wp2
      go_ret
      refine ⟨ret_u64 ?_, rfl⟩
      rw [HW.out, div_pow_cast]
  · have h3i : decide ((0 : Int) < (j : Int) % 64) = false := decide_eq_false (by omega)
    have HW : Hid (wordN F n (j : Int) = F (j / 64) / 2 ^ (j % 64)) := wordN_one (fun h => h3 h.1)
    clear hc hF
    go_enter Try.func27, Try.ntmps27
    go_wp2
    go_ret
    refine ⟨ret_u64 ?_, rfl⟩
    rw [HW.out, div_pow_cast]

theorem zzword_any (g n cap : Nat) (F : Nat → Nat) (i : Int) (w : World) (hn : n ≤ 65536) (hn0 : 0 < n) (hF : ∀ j, j < n → F j < 2 ^ 64) (hi0 : -9223372036854775808 ≤ i) (hi : i < 64 * (n : Int))
    (hc : ∀ j, j < n → w.cell? ⟨g, j, none⟩ = some (.int .u64 (F j : Int))) :
    Calls Try.prog 21 #[.slice (some ⟨g, 0, none⟩) n cap, .int .i64 i] w fun e w' => e = .returned (.int .u64 (wordN F n i : Int)) ∧ w = w' := by
  have HC := fun cap => word_any g n cap F i w hn hn0 hF hi0 hi hc
  have HH : Hid (∀ cap, Calls Try.prog 27 #[.slice (some ⟨g, 0, none⟩) n cap, .int .i64 i] w fun e w' => e = .returned (.int .u64 (wordN F n i : Int)) ∧ w = w') := HC
  clear HC hc hF
  go_enter Try.func21, Try.ntmps21
  go_wp2_with fail
  refine (HH.out _).mono ?_
  rintro e w' ⟨rfl, hw⟩
  obtain rfl := hw
  go_wp2
  go_ret
  exact ⟨rfl, rfl⟩

theorem clone_any (b off n cap : Nat) (f : Nat → Int) (w : World) (hm : n ≤ 65536) (hbw : 0 < n → b < w.heap.size)
    (hc : ∀ i, i < n → w.cell? ⟨b, off + i, none⟩ = some (.int .u64 (f i))) :
    Calls Try.prog 20 #[.slice (some ⟨b, off, none⟩) n cap] w fun e w' => e = .returned (.slice (some ⟨w.heap.size, 0, none⟩) n n) ∧ CopyTo w w.heap.size 27 .u64 w.heap.size n f n w' := by
  obtain ⟨i0, hi, hz0, hz1, hz2⟩ := info_parts Try.info27
  have hne := fun (w : World) (a : Option Addr) (n c : Nat) => Lib.run_eql_slice_nil (P := Try.prog) w 35 27 a n c 0 0 Try.underlying35
  have HC : Hid (∀ i, i < n → w.cell? ⟨b, off + i, none⟩ = some (.int .u64 (f i))) := hc
  clear hc
  go_enter Try.func20, Try.ntmps20
  go_wp2_with (first | (at_make; refine wpList_make_full _ rfl _ _ 35 rfl w.heap.size 27 i0 (.int .u64 0) 1 Try.underlying35 hi hz0 hz1 _ _ _ _ n rfl rfl rfl rfl ?c1 ?c2 ?c3 ?_))
  case c1 => first | omega | (rw [hz2]; omega)
  case c2 => unfold maxLen; omega
  case c3 => exact Nat.le_refl _
  intro w1 hown1 hgrow1
  have hcp : Hid (CopyTo w w.heap.size 27 .u64 w.heap.size n f 0 w1) := CopyTo.start ((Below.refl _ _).grown hgrow1 (Nat.le_refl _) (fun _ h => by cases h)) (lt_size hown1) hown1
  clear hown1 hgrow1
  go_wp2
  go_loopw [4] (fun i wr => ∃ k : Nat, k ≤ n ∧ i = .int .i64 k ∧ Hid (CopyTo w w.heap.size 27 .u64 w.heap.size n f k wr)) (fun i _ => n - (intOf i).toNat)
  case atStart => exact ⟨0, by omega, rfl, hcp⟩
  case round =>
    obtain ⟨k, hk, rfl, hcp⟩ := hrel
    by_cases hlt : k < n
    · have hki : (k : Int) < (n : Int) := by omega
      have hce : wr.cell? ⟨b, off + k, none⟩ = some (.int .u64 (f k)) := (hcp.out.1.cell (p := ⟨b, off + k, none⟩) (hbw (by omega))).trans (HC.out k hlt)
      obtain ⟨v0, hv0⟩ := hcp.out.some k hlt
      have hfz := hcp.out.free k
      have hcp' : Hid (CopyTo w w.heap.size 27 .u64 w.heap.size n f (k + 1) (wr.setCell ⟨w.heap.size, k, none⟩ (.int .u64 (f k)))) := hcp.out.step (Nat.le_refl _) hlt rfl
      go_wp2
      go_roundw
      case rel => exact ⟨k + 1, by omega, by go_num, hcp'⟩
      case measure => simp [intOf]; omega
    · have hki : decide ((k : Int) < (n : Int)) = false := decide_eq_false (by omega)
      obtain rfl : k = n := by omega
      go_wp2
      go_ret
      exact ⟨rfl, hcp.out⟩

theorem zzB19 (a : Option Addr) (n cap : Nat) (i : Int) (w : World) (ht : n ≤ 1048576) :
    Calls Try.prog 19 #[.slice a n cap, .int .i64 i] w fun e w' => e = .returned (.bool true) ∧ w = w' := by
  go_enter Try.func19, Try.ntmps19
  go_wp2
  go_ret
  exact ⟨rfl, rfl⟩

set_option maxHeartbeats 1000000 in
theorem wordat_core (b off n cap : Nat) (F : Nat → Nat) (i : Int) (w : World) (hm : n ≤ 65536) (hn0 : 0 < n) (hbw : b < w.heap.size) (hi0 : -9223372036854775808 ≤ i) (hi : i < 64 * (n : Int)) (hF : ∀ j, j < n → F j < 2 ^ 64)
    (hc : ∀ i, i < n → w.cell? ⟨b, off + i, none⟩ = some (.int .u64 (F i : Int))) :
    Calls Try.prog 8 #[.slice (some ⟨b, off, none⟩) n cap, .int .i64 i] w fun e w' => e = .returned (.bool true) ∧ Below w.heap.size w w' := by
  have HC : Hid (Calls Try.prog 20 #[.slice (some ⟨b, off, none⟩) n cap] w fun e w' => e = .returned (.slice (some ⟨w.heap.size, 0, none⟩) n n) ∧ CopyTo w w.heap.size 27 .u64 w.heap.size n (fun j => (F j : Int)) n w') :=
    clone_any b off n cap (fun j => (F j : Int)) w hm (fun _ => hbw) hc
  have HF : Hid (∀ j, j < n → F j < 2 ^ 64) := hF
  clear hc hF
  have hz : ((n : Int) == 0) = false := beq_eq_false_iff_ne.2 (by omega)
  have hd : decide (64 * (n : Int) ≤ i) = false := decide_eq_false (by omega)
  go_enter Try.func8, Try.ntmps8
  go_wp2_with (go_at_call 19; refine (zzB19 _ _ _ _ _ (by omega)).mono ?_; rintro e w' ⟨rfl, hw⟩; obtain rfl := hw)
  refine HC.out.mono ?_
  rintro e w1 ⟨rfl, hcp⟩
  have HB : Hid (Below w.heap.size w w1) := hcp.1
  have HCL : Hid (∀ j, j < n → w1.cell? ⟨w.heap.size, j, none⟩ = some (.int .u64 (F j : Int))) := fun j hj => hcp.cell j hj (Nat.le_refl _)
  clear hcp HC
  go_wp2_with fail
  refine (zzword_any w.heap.size n n F i w1 hm hn0 HF.out hi0 hi HCL.out).mono ?_
  rintro e w' ⟨rfl, hw⟩
  obtain rfl := hw
  obtain ⟨W, hW⟩ : ∃ W, wordN F n i = W := ⟨_, rfl⟩
  rw [hW]
  have HW : Hid (wordN F n i = W) := hW
  have hWl : (W : Int) ≤ 18446744073709551615 := by
    have : W < 18446744073709551616 := by rw [← hW]; exact wordN_lt F n HF.out i hn0 hi
    omega
  have HWl : Hid (W < 2 ^ 64) := by rw [Hid, ← hW]; exact wordN_lt F n HF.out i hn0 hi
  clear hW
  go_wp2_with fail
  go_loop [6] (fun v6 => ∃ k : Nat, k ≤ 64 ∧ v6 = .int .i64 k) (fun v6 => 64 - (intOf v6).toNat)
  case atStart => exact ⟨0, by omega, rfl⟩
  case round =>
    obtain ⟨k, hk, rfl⟩ := hrel
    by_cases hlt : k < 64
    · have hki : (k : Int) < 64 := by omega
      have hb : (bits BinOp.and IntKind.u64 ((W : Int) / 2 ^ k) 1 != (bitN F n (i + (k : Int)) : Int)) = false := by
        rw [div_pow_cast, and_one_nat _ (Nat.lt_of_le_of_lt (Nat.div_le_self _ _) HWl.out), ← HW.out, word_bit F n HF.out i hn0 hi k hlt]
        simp
      go_wp2_with fail
      refine (bit_any w.heap.size n n F (i + (k : Int)) w1 hm HF.out HCL.out).mono ?_
      rintro e w' ⟨rfl, hw⟩
      obtain rfl := hw
      go_wp2
      go_round
      case rel => exact ⟨k + 1, by omega, by go_num⟩
      case measure => simp [intOf]; omega
    · have hki : decide ((k : Int) < 64) = false := decide_eq_false (by omega)
      go_wp2
      go_ret
      exact ⟨rfl, HB.out⟩

end Go.Proofs.Qxb6000357a
