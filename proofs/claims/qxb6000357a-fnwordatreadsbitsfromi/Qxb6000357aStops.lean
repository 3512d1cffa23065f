import Derived.Test.Qxb6000357aExpB
import Derived.WalkSpells
namespace Go.Proofs.Qxb6000357a
open Go.RowKit

theorem Try.info5 : (Try.prog.info? 5).map (fun i => (i.zero, i.size, i.bytes)) = some (some (.int .u8 0), 1, 1) := by kernel_rfl

/-- what the copying has come to: the first k elements are f's -/
def CopyTo (w : World) (B : Nat) (e : TypeId) (kd : IntKind) (g n : Nat) (f : Nat → Int) (k : Nat) (wr : World) : Prop :=
  Below w.heap.size w wr ∧ g < wr.heap.size ∧ ∃ xs, wr.ownsRow B e 1 (.slice (some ⟨g, 0, none⟩) n n) n xs ∧ ∀ t, t < k → xs[t]? = some (.int kd (f t))

theorem CopyTo.start {w wr : World} {B e : Nat} {kd : IntKind} {g n : Nat} {f : Nat → Int} {xs : List Value} (hb : Below w.heap.size w wr) (hg : g < wr.heap.size)
    (h : wr.ownsRow B e 1 (.slice (some ⟨g, 0, none⟩) n n) n xs) : CopyTo w B e kd g n f 0 wr := ⟨hb, hg, xs, h, fun t ht => by omega⟩

theorem CopyTo.step {w wr : World} {B e : Nat} {kd : IntKind} {g n : Nat} {f : Nat → Int} {k : Nat} (h : CopyTo w B e kd g n f k wr) (hg : w.heap.size ≤ g) (hk : k < n) {u : Value} (hu : u = .int kd (f k)) :
    CopyTo w B e kd g n f (k + 1) (wr.setCell ⟨g, k, none⟩ u) := by
  obtain ⟨hb, hs, xs, ho, hx⟩ := h
  subst hu
  have hl : xs.length = n := by simpa using ho.1
  refine ⟨hb.setCell (p := ⟨g, k, none⟩) hg _, by simpa [World.setCell] using hs, _, (ho.stored k _).1, fun t ht => ?_⟩
  by_cases e1 : t = k
  · subst e1; simp [hl, hk]
  · rw [List.getElem?_set_ne (by omega)]; exact hx t (by omega)

theorem CopyTo.cell {w wr : World} {B e : Nat} {kd : IntKind} {g n : Nat} {f : Nat → Int} {k : Nat} (h : CopyTo w B e kd g n f k wr) (t : Nat) (ht : t < k) (hk : k ≤ n) : wr.cell? ⟨g, t, none⟩ = some (.int kd (f t)) := by
  obtain ⟨_, _, xs, ho, hx⟩ := h
  rw [ho.cellAt t (by omega)]; exact hx t ht

theorem CopyTo.some {w wr : World} {B e : Nat} {kd : IntKind} {g n : Nat} {f : Nat → Int} {k : Nat} (h : CopyTo w B e kd g n f k wr) (t : Nat) (ht : t < n) : ∃ v, wr.cell? ⟨g, t, none⟩ = some v := by
  obtain ⟨_, _, xs, ho, hx⟩ := h
  have hl : xs.length = n := by simpa using ho.1
  rw [ho.cellAt t (by omega)]
  exact ⟨xs[t], List.getElem?_eq_getElem (by omega)⟩

theorem CopyTo.free {w wr : World} {B e : Nat} {kd : IntKind} {g n : Nat} {f : Nat → Int} {k : Nat} (h : CopyTo w B e kd g n f k wr) (t : Nat) : wr.frozen? ⟨g, t, none⟩ = false := by
  obtain ⟨_, _, xs, ho, hx⟩ := h
  exact ho.frozenAt t

theorem lt_size {w : World} {B e size g n cap : Nat} {xs : List Value} (h : w.ownsRow B e size (.slice (some ⟨g, 0, none⟩) n cap) n xs) : g < w.heap.size := by
  rcases h.2 with ⟨h', _⟩ | ⟨g', cap', cur, h', _, hg, _⟩
  · simp at h'
  · simp only [Value.slice.injEq, Option.some.injEq, Addr.mk.injEq, and_true, true_and] at h'
    obtain ⟨rfl, rfl⟩ := h'
    exact (Array.getElem?_eq_some_iff.1 hg).1

theorem expRes_zero (f : Nat → Int) (n : Nat) : ExpRes f n 0 = .tuple #[.int .u64 0, .bool false, .int .i64 0] := rfl
theorem expRes_pos {f : Nat → Int} {n k S : Nat} {N : Bool} (hk : k ≠ 0) (hS : stOf f n = S) (hN : ngOf f n = N) : ExpRes f n k = .tuple #[.int .u64 (magOf f S k), .bool N, .int .i64 ((S + k : Nat) : Int)] := by
  subst hS hN
  simp [ExpRes, oMag, oNeg, oLen, hk]

set_option maxHeartbeats 4000000 in
theorem stops_core (b off n cap : Nat) (f : Nat → Int) (w : World) (hm : n ≤ 65536) (hbw : 0 < n → b < w.heap.size)
    (hc : ∀ i, i < n → w.cell? ⟨b, off + i, none⟩ = some (.int .u8 (f i)) ∧ 0 ≤ f i ∧ f i ≤ 255) :
    Calls Try.prog 7 #[.slice (some ⟨b, off, none⟩) n cap] w fun e w' => e = .returned (.bool true) ∧ Below w.heap.size w w' := by
  obtain ⟨i0, hi, hz0, hz1, hz2⟩ := info_parts Try.info5
  have hne := fun (w : World) (a : Option Addr) (n c : Nat) => run_neq_slice_nil_any (P := Try.prog) w 30 5 a n c 0 0 Try.underlying30
  have HC : Hid (∀ i, i < n → w.cell? ⟨b, off + i, none⟩ = some (.int .u8 (f i)) ∧ 0 ≤ f i ∧ f i ≤ 255) := hc
  clear hc
  go_enter Try.func7, Try.ntmps7
  go_wp2_with (first | (at_make; refine wpList_make_full _ rfl _ _ 30 rfl w.heap.size 5 i0 (.int .u8 0) 1 Try.underlying30 hi hz0 hz1 _ _ _ _ n rfl rfl rfl rfl ?c1 ?c2 ?c3 ?_) | go_in)
  case c1 => rw [hz2]; omega
  case c2 => unfold maxLen; omega
  case c3 => exact Nat.le_refl _
  intro w1 hown1 hgrow1
  have hcp : Hid (CopyTo w w.heap.size 5 .u8 w.heap.size n f 0 w1) := CopyTo.start ((Below.refl _ _).grown hgrow1 (Nat.le_refl _) (fun _ h => by cases h)) (lt_size hown1) hown1
  clear hown1 hgrow1
  go_wp2
  go_loopw [4] (fun i wr => ∃ k : Nat, k ≤ n ∧ i = .int .i64 k ∧ Hid (CopyTo w w.heap.size 5 .u8 w.heap.size n f k wr)) (fun i _ => n - (intOf i).toNat)
  case atStart => exact ⟨0, by omega, rfl, hcp⟩
  case round =>
    obtain ⟨k, hk, rfl, hcp⟩ := hrel
    by_cases hlt : k < n
    · have hki : (k : Int) < (n : Int) := by omega
      have hce : wr.cell? ⟨b, off + k, none⟩ = some (.int .u8 (f k)) := (hcp.out.1.cell (p := ⟨b, off + k, none⟩) (hbw (by omega))).trans (HC.out k hlt).1
      obtain ⟨v0, hv0⟩ := hcp.out.some k hlt
      have hfz := hcp.out.free k
      have hcp' : Hid (CopyTo w w.heap.size 5 .u8 w.heap.size n f (k + 1) (wr.setCell ⟨w.heap.size, k, none⟩ (.int .u8 (f k)))) := hcp.out.step (Nat.le_refl _) hlt rfl
      go_wp2
      go_roundw
      case rel => exact ⟨k + 1, by omega, by go_num, hcp'⟩
      case measure => simp [intOf]; omega
    · have hki : decide ((k : Int) < (n : Int)) = false := decide_eq_false (by omega)
      obtain rfl : k = n := by omega
      obtain ⟨k0, hk0e⟩ : ∃ k0, k0 = k := ⟨_, rfl⟩
      subst hk0e
      have HCL : Hid (∀ t, t < k0 → wr.cell? ⟨w.heap.size, t, none⟩ = some (.int .u8 (f t))) := fun t ht => hcp.out.cell t ht (Nat.le_refl _)
      have HY : Hid (BytesAt wr (some ⟨w.heap.size, 0, none⟩) k0 f) := fun t ht => ⟨w.heap.size, 0, rfl, by simpa using HCL.out t ht, (HC.out t ht).2⟩
      have HB : Hid (Below w.heap.size w wr) := hcp.out.1
      clear hcp HC hi hz0 hz1 hz2
      go_wp2_with fail
      refine (zzexp_any (some ⟨w.heap.size, 0, none⟩) k0 k0 f wr (by omega) HY.out).mono ?_
      rintro e w' ⟨⟨k, hrk, rfl⟩, rfl⟩
      clear HY
      by_cases h1 : 1 < k0
      · have h1i : (1 : Int) < (k0 : Int) := by omega
        have c1 := HCL.out 1 h1
        by_cases h45 : f 1 = 45
        · have hs : stOf f k0 = 2 := by simp [stOf, h45]; omega
          have hg : ngOf f k0 = true := by simp [ngOf, h45]; omega
          rw [h45] at c1
          clear h45
          by_cases hk0 : k = 0
          · subst hk0
            rw [expRes_zero]
            by_cases hS : 2 < k0
            · have hSi : (2 : Int) < (k0 : Int) := by omega
              have cS := HCL.out 2 hS
              have hdg : dig (f 2) = false := by simpa [hs] using hrk.2 (by omega)
              have HD : Hid (dig (f 2) = false) := hdg
              clear hdg
              go_wp2_with fail
              refine (zzDigit_no (f 2) _ HD.out).mono ?_
              rintro e w' ⟨rfl, rfl⟩
              go_wp2
              go_ret
              exact ⟨rfl, HB.out⟩
            · have hSi : decide ((2 : Int) < (k0 : Int)) = false := decide_eq_false (by omega)
              go_wp2
              go_ret
              exact ⟨rfl, HB.out⟩
          · rw [expRes_pos hk0 hs hg]
            have HR : Hid (∀ t, t < k → 2 + t < k0 ∧ dig (f (2 + t)) = true) := fun t ht => by have := hrk.1 t ht; rw [hs] at this; exact this
            have HE : Hid (2 + k < k0 → dig (f (2 + k)) = false) := fun ht => by have := hrk.2; rw [hs] at this; exact this ht
            have hle : 2 + k ≤ k0 := by have := (HR.out (k - 1) (by omega)).1; omega
            have hmb := magOf_bd f 2 k (fun t ht => (HR.out t ht).2)
            obtain ⟨hmb1, hmb2⟩ := hmb
            have hS : 2 < k0 := by omega
            have hSi : (2 : Int) < (k0 : Int) := by omega
            have cS := HCL.out 2 hS
            have hz : (((2 + k : Nat) : Int) == 0) = false := beq_eq_false_iff_ne.2 (by omega)
            have t1 : decide (((2 + k : Nat) : Int) ≤ 2) = false := decide_eq_false (by omega)
            have t2 : decide ((k0 : Int) < ((2 + k : Nat) : Int)) = false := decide_eq_false (by omega)
            have t3 : decide ((9223372036854775808 : Int) ≤ magOf f 2 k) = false := decide_eq_false (by omega)
            have HD0 : Hid (dig (f 2) = true) := (HR.out 0 (by omega)).2
            clear hrk
            go_wp2_with fail
            refine (zzDigit_yes (f 2) _ HD0.out).mono ?_
            rintro e w' ⟨rfl, rfl⟩
            go_wp2_with fail
            go_loop [10] (fun i => ∃ t : Nat, t ≤ k ∧ i = .int .i64 ((2 + t : Nat) : Int)) (fun i => 2 + k - (intOf i).toNat)
            case atStart => exact ⟨0, by omega, rfl⟩
            case round =>
              obtain ⟨t, ht, rfl⟩ := hrel
              by_cases htl : t < k
              · have hti : ((2 + t : Nat) : Int) < ((2 + k : Nat) : Int) := by omega
                have htn : ((2 + t : Nat) : Int) < (k0 : Int) := by omega
                have ct := HCL.out (2 + t) (by omega)
                go_wp2_with fail
                refine (zzDigit_yes (f (2 + t)) _ (HR.out t htl).2).mono ?_
                rintro e w' ⟨rfl, rfl⟩
                go_wp2
                go_round
                case rel => exact ⟨t + 1, by omega, by go_num⟩
                case measure => simp [intOf]; omega
              · obtain rfl : t = k := by omega
                have hti : decide (((2 + t : Nat) : Int) < ((2 + t : Nat) : Int)) = false := decide_eq_false (by omega)
                by_cases hnl : 2 + t < k0
                · have hni : ((2 + t : Nat) : Int) < (k0 : Int) := by omega
                  have cn := HCL.out (2 + t) hnl
                  go_wp2_with fail
                  refine (zzDigit_no (f (2 + t)) _ (HE.out hnl)).mono ?_
                  rintro e w' ⟨rfl, rfl⟩
                  go_wp2
                  go_ret
                  exact ⟨rfl, HB.out⟩
                · have hni : decide (((2 + t : Nat) : Int) < (k0 : Int)) = false := decide_eq_false (by omega)
                  go_wp2
                  go_ret
                  exact ⟨rfl, HB.out⟩

        · by_cases h43 : f 1 = 43
          · have hs : stOf f k0 = 2 := by simp [stOf, h43]; omega
            have hg : ngOf f k0 = false := by simp [ngOf, h45]
            rw [h43] at c1
            clear h45 h43
            by_cases hk0 : k = 0
            · subst hk0
              rw [expRes_zero]
              by_cases hS : 2 < k0
              · have hSi : (2 : Int) < (k0 : Int) := by omega
                have cS := HCL.out 2 hS
                have hdg : dig (f 2) = false := by simpa [hs] using hrk.2 (by omega)
                have HD : Hid (dig (f 2) = false) := hdg
                clear hdg
                go_wp2_with fail
                refine (zzDigit_no (f 2) _ HD.out).mono ?_
                rintro e w' ⟨rfl, rfl⟩
                go_wp2
                go_ret
                exact ⟨rfl, HB.out⟩
              · have hSi : decide ((2 : Int) < (k0 : Int)) = false := decide_eq_false (by omega)
                go_wp2
                go_ret
                exact ⟨rfl, HB.out⟩
            · rw [expRes_pos hk0 hs hg]
              have HR : Hid (∀ t, t < k → 2 + t < k0 ∧ dig (f (2 + t)) = true) := fun t ht => by have := hrk.1 t ht; rw [hs] at this; exact this
              have HE : Hid (2 + k < k0 → dig (f (2 + k)) = false) := fun ht => by have := hrk.2; rw [hs] at this; exact this ht
              have hle : 2 + k ≤ k0 := by have := (HR.out (k - 1) (by omega)).1; omega
              have hmb := magOf_bd f 2 k (fun t ht => (HR.out t ht).2)
              obtain ⟨hmb1, hmb2⟩ := hmb
              have hS : 2 < k0 := by omega
              have hSi : (2 : Int) < (k0 : Int) := by omega
              have cS := HCL.out 2 hS
              have hz : (((2 + k : Nat) : Int) == 0) = false := beq_eq_false_iff_ne.2 (by omega)
              have t1 : decide (((2 + k : Nat) : Int) ≤ 2) = false := decide_eq_false (by omega)
              have t2 : decide ((k0 : Int) < ((2 + k : Nat) : Int)) = false := decide_eq_false (by omega)
              have t3 : decide ((9223372036854775808 : Int) ≤ magOf f 2 k) = false := decide_eq_false (by omega)
              have HD0 : Hid (dig (f 2) = true) := (HR.out 0 (by omega)).2
              clear hrk
              go_wp2_with fail
              refine (zzDigit_yes (f 2) _ HD0.out).mono ?_
              rintro e w' ⟨rfl, rfl⟩
              go_wp2_with fail
              go_loop [10] (fun i => ∃ t : Nat, t ≤ k ∧ i = .int .i64 ((2 + t : Nat) : Int)) (fun i => 2 + k - (intOf i).toNat)
              case atStart => exact ⟨0, by omega, rfl⟩
              case round =>
                obtain ⟨t, ht, rfl⟩ := hrel
                by_cases htl : t < k
                · have hti : ((2 + t : Nat) : Int) < ((2 + k : Nat) : Int) := by omega
                  have htn : ((2 + t : Nat) : Int) < (k0 : Int) := by omega
                  have ct := HCL.out (2 + t) (by omega)
                  go_wp2_with fail
                  refine (zzDigit_yes (f (2 + t)) _ (HR.out t htl).2).mono ?_
                  rintro e w' ⟨rfl, rfl⟩
                  go_wp2
                  go_round
                  case rel => exact ⟨t + 1, by omega, by go_num⟩
                  case measure => simp [intOf]; omega
                · obtain rfl : t = k := by omega
                  have hti : decide (((2 + t : Nat) : Int) < ((2 + t : Nat) : Int)) = false := decide_eq_false (by omega)
                  by_cases hnl : 2 + t < k0
                  · have hni : ((2 + t : Nat) : Int) < (k0 : Int) := by omega
                    have cn := HCL.out (2 + t) hnl
                    go_wp2_with fail
                    refine (zzDigit_no (f (2 + t)) _ (HE.out hnl)).mono ?_
                    rintro e w' ⟨rfl, rfl⟩
                    go_wp2
                    go_ret
                    exact ⟨rfl, HB.out⟩
                  · have hni : decide (((2 + t : Nat) : Int) < (k0 : Int)) = false := decide_eq_false (by omega)
                    go_wp2
                    go_ret
                    exact ⟨rfl, HB.out⟩

          · have hs : stOf f k0 = 1 := by simp [stOf, h45, h43]
            have hg : ngOf f k0 = false := by simp [ngOf, h45]
            have e45 : (f 1 == 45) = false := beq_eq_false_iff_ne.2 h45
            have e43 : (f 1 == 43) = false := beq_eq_false_iff_ne.2 h43
            clear h45 h43
            by_cases hk0 : k = 0
            · subst hk0
              rw [expRes_zero]
              by_cases hS : 1 < k0
              · have hSi : (1 : Int) < (k0 : Int) := by omega
                have cS := HCL.out 1 hS
                have hdg : dig (f 1) = false := by simpa [hs] using hrk.2 (by omega)
                have HD : Hid (dig (f 1) = false) := hdg
                clear hdg
                go_wp2_with fail
                refine (zzDigit_no (f 1) _ HD.out).mono ?_
                rintro e w' ⟨rfl, rfl⟩
                go_wp2
                go_ret
                exact ⟨rfl, HB.out⟩
              · omega
            · rw [expRes_pos hk0 hs hg]
              have HR : Hid (∀ t, t < k → 1 + t < k0 ∧ dig (f (1 + t)) = true) := fun t ht => by have := hrk.1 t ht; rw [hs] at this; exact this
              have HE : Hid (1 + k < k0 → dig (f (1 + k)) = false) := fun ht => by have := hrk.2; rw [hs] at this; exact this ht
              have hle : 1 + k ≤ k0 := by have := (HR.out (k - 1) (by omega)).1; omega
              have hmb := magOf_bd f 1 k (fun t ht => (HR.out t ht).2)
              obtain ⟨hmb1, hmb2⟩ := hmb
              have hS : 1 < k0 := by omega
              have hSi : (1 : Int) < (k0 : Int) := by omega
              have cS := HCL.out 1 hS
              have hz : (((1 + k : Nat) : Int) == 0) = false := beq_eq_false_iff_ne.2 (by omega)
              have t1 : decide (((1 + k : Nat) : Int) ≤ 1) = false := decide_eq_false (by omega)
              have t2 : decide ((k0 : Int) < ((1 + k : Nat) : Int)) = false := decide_eq_false (by omega)
              have t3 : decide ((9223372036854775808 : Int) ≤ magOf f 1 k) = false := decide_eq_false (by omega)
              have HD0 : Hid (dig (f 1) = true) := (HR.out 0 (by omega)).2
              clear hrk
              go_wp2_with fail
              refine (zzDigit_yes (f 1) _ HD0.out).mono ?_
              rintro e w' ⟨rfl, rfl⟩
              go_wp2_with fail
              go_loop [10] (fun i => ∃ t : Nat, t ≤ k ∧ i = .int .i64 ((1 + t : Nat) : Int)) (fun i => 1 + k - (intOf i).toNat)
              case atStart => exact ⟨0, by omega, rfl⟩
              case round =>
                obtain ⟨t, ht, rfl⟩ := hrel
                by_cases htl : t < k
                · have hti : ((1 + t : Nat) : Int) < ((1 + k : Nat) : Int) := by omega
                  have htn : ((1 + t : Nat) : Int) < (k0 : Int) := by omega
                  have ct := HCL.out (1 + t) (by omega)
                  go_wp2_with fail
                  refine (zzDigit_yes (f (1 + t)) _ (HR.out t htl).2).mono ?_
                  rintro e w' ⟨rfl, rfl⟩
                  go_wp2
                  go_round
                  case rel => exact ⟨t + 1, by omega, by go_num⟩
                  case measure => simp [intOf]; omega
                · obtain rfl : t = k := by omega
                  have hti : decide (((1 + t : Nat) : Int) < ((1 + t : Nat) : Int)) = false := decide_eq_false (by omega)
                  by_cases hnl : 1 + t < k0
                  · have hni : ((1 + t : Nat) : Int) < (k0 : Int) := by omega
                    have cn := HCL.out (1 + t) hnl
                    go_wp2_with fail
                    refine (zzDigit_no (f (1 + t)) _ (HE.out hnl)).mono ?_
                    rintro e w' ⟨rfl, rfl⟩
                    go_wp2
                    go_ret
                    exact ⟨rfl, HB.out⟩
                  · have hni : decide (((1 + t : Nat) : Int) < (k0 : Int)) = false := decide_eq_false (by omega)
                    go_wp2
                    go_ret
                    exact ⟨rfl, HB.out⟩

      · have h1i : decide ((1 : Int) < (k0 : Int)) = false := decide_eq_false (by omega)
        have hs : stOf f k0 = 1 := by simp [stOf]; omega
        have hk0 : k = 0 := by
          by_cases e : k = 0
          · exact e
          · have := (hrk.1 0 (by omega)).1; omega
        subst hk0
        rw [expRes_zero]
        clear hrk hs
        go_wp2
        go_ret
        exact ⟨rfl, HB.out⟩

end Go.Proofs.Qxb6000357a
