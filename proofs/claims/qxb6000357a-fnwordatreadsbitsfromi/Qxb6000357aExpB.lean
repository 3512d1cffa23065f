import Derived.Test.Qxb6000357aExp
namespace Go.Proofs.Qxb6000357a
open Go.RowKit

/-- k digits from the start on, and no more -/
def RunK (f : Nat → Int) (n k : Nat) : Prop :=
  (∀ t, t < k → stOf f n + t < n ∧ dig (f (stOf f n + t)) = true) ∧ (stOf f n + k < n → dig (f (stOf f n + k)) = false)
def oMag (f : Nat → Int) (n k : Nat) : Int := if k = 0 then 0 else magOf f (stOf f n) k
def oNeg (f : Nat → Int) (n k : Nat) : Bool := if k = 0 then false else ngOf f n
def oLen (f : Nat → Int) (n k : Nat) : Nat := if k = 0 then 0 else stOf f n + k
def ExpRes (f : Nat → Int) (n k : Nat) : Value := .tuple #[.int .u64 (oMag f n k), .bool (oNeg f n k), .int .i64 (oLen f n k)]

theorem expRes_of {f : Nat → Int} {n k S : Nat} {N : Bool} (hS : stOf f n = S) (hN : ngOf f n = N) :
    (.tuple (if k = 0 then #[.int .u64 0, .bool false, .int .i64 0] else #[.int .u64 (magOf f S k), .bool N, .int .i64 ((S + k : Nat) : Int)]) : Value) = ExpRes f n k := by
  subst hS hN
  unfold ExpRes oMag oNeg oLen
  by_cases h : k = 0 <;> simp [h]

theorem exp_any (a : Option Addr) (n cap : Nat) (f : Nat → Int) (w : World) (hm : n ≤ 9223372036854775807) (hb : BytesAt w a n f) :
    Calls Try.prog 26 #[.slice a n cap] w fun e w' => (∃ k, RunK f n k ∧ e = .returned (ExpRes f n k)) ∧ w' = w := by
  by_cases hn : n ≤ 1
  · refine (exp_short a n cap w hn).mono ?_
    rintro e w' ⟨rfl, rfl⟩
    have hs : stOf f n = 1 := by simp [stOf]; omega
    exact ⟨⟨0, ⟨fun t ht => by omega, fun h => by omega⟩, rfl⟩, rfl⟩
  · obtain ⟨b, off, rfl, -, -, -⟩ := hb 0 (by omega)
    have hc : ∀ i, i < n → w.cell? ⟨b, off + i, none⟩ = some (.int .u8 (f i)) ∧ 0 ≤ f i ∧ f i ≤ 255 := by
      intro i hi
      obtain ⟨b', off', e, h⟩ := hb i hi
      simp at e
      obtain ⟨rfl, rfl⟩ := e
      exact h
    by_cases h45 : f 1 = 45
    · have hs : stOf f n = 2 := by simp [stOf, h45]; omega
      have hg : ngOf f n = true := by simp [ngOf, h45]; omega
      refine (exp_minus b off n cap f w hm (by omega) hc h45).mono ?_
      rintro e w' ⟨⟨k, h1, h2, rfl⟩, rfl⟩
      exact ⟨⟨k, ⟨by rw [hs]; exact h1, by rw [hs]; exact h2⟩, by rw [expRes_of hs hg]⟩, rfl⟩
    · have hg : ngOf f n = false := by simp [ngOf, h45]
      by_cases h43 : f 1 = 43
      · have hs : stOf f n = 2 := by simp [stOf, h43]; omega
        refine (exp_plus b off n cap f w hm (by omega) hc h43).mono ?_
        rintro e w' ⟨⟨k, h1, h2, rfl⟩, rfl⟩
        exact ⟨⟨k, ⟨by rw [hs]; exact h1, by rw [hs]; exact h2⟩, by rw [expRes_of hs hg]⟩, rfl⟩
      · have hs : stOf f n = 1 := by simp [stOf, h45, h43]
        refine (exp_plain b off n cap f w hm (by omega) hc h45 h43).mono ?_
        rintro e w' ⟨⟨k, h1, h2, rfl⟩, rfl⟩
        exact ⟨⟨k, ⟨by rw [hs]; exact h1, by rw [hs]; exact h2⟩, by rw [expRes_of hs hg]⟩, rfl⟩

theorem zzexp_any (a : Option Addr) (n cap : Nat) (f : Nat → Int) (w : World) (hm : n ≤ 9223372036854775807) (hb : BytesAt w a n f) :
    Calls Try.prog 17 #[.slice a n cap] w fun e w' => (∃ k, RunK f n k ∧ e = .returned (ExpRes f n k)) ∧ w' = w := by
  have HB : Hid (BytesAt w a n f) := hb
  clear hb
  go_enter Try.func17, Try.ntmps17
  go_wp2_with fail
  refine (exp_any a n cap f w hm HB.out).mono ?_
  rintro e w' ⟨⟨k, hk, rfl⟩, rfl⟩
  have HK : Hid (RunK f n k) := hk
  clear hk
  unfold ExpRes
  go_wp2
  go_ret3
  exact ⟨⟨k, HK.out, rfl⟩, rfl⟩

end Go.Proofs.Qxb6000357a
