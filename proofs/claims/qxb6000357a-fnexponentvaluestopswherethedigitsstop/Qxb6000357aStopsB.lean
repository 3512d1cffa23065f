import Derived.Test.Qxb6000357aStops
namespace Go.Proofs.Qxb6000357a
open Go.RowKit

theorem stops_long (a0 : Option Addr) (n cap : Nat) (w : World) (h1 : 1048576 < n) :
    Calls Try.prog 7 #[.slice a0 n cap] w fun e w' => e = .returned (.bool true) ∧ Below w.heap.size w w' := by
  go_enter Try.func7, Try.ntmps7
  go_wp2
  go_ret
  exact ⟨rfl, Below.refl _ _⟩

theorem stops_mid (a0 : Option Addr) (n cap : Nat) (w : World) (h1 : n ≤ 1048576) (h2 : 65536 < n) :
    Calls Try.prog 7 #[.slice a0 n cap] w fun e w' => e = .returned (.bool true) ∧ Below w.heap.size w w' := by
  go_enter Try.func7, Try.ntmps7
  go_wp2
  go_ret
  exact ⟨rfl, Below.refl _ _⟩

set_option maxRecDepth 100000 in
theorem stops_nil (w : World) :
    Calls Try.prog 7 #[.slice none 0 0] w fun e w' => e = .returned (.bool true) ∧ Below w.heap.size w w' := by
  have hne := fun (w : World) (a : Option Addr) (n c : Nat) => run_neq_slice_nil_any (P := Try.prog) w 30 5 a n c 0 0 Try.underlying30
  go_enter Try.func7, Try.ntmps7
  go_wp2_with (go_at_call 18; go_in)
  refine (zzexp_any none 0 0 (fun _ => 0) _ (by omega) (fun i hi => by omega)).mono ?_
  rintro e w' ⟨⟨k, hrk, rfl⟩, rfl⟩
  have hk0 : k = 0 := by
    by_cases e : k = 0
    · exact e
    · have := (hrk.1 0 (by omega)).1; omega
  subst hk0
  rw [expRes_zero]
  clear hrk
  go_wp2
  go_ret
  exact ⟨rfl, Below.refl _ _⟩

set_option maxRecDepth 100000 in
theorem stops_empty (x : Addr) (cap : Nat) (w : World) :
    Calls Try.prog 7 #[.slice (some x) 0 cap] w fun e w' => e = .returned (.bool true) ∧ Below w.heap.size w w' := by
  obtain ⟨i0, hi, hz0, hz1, hz2⟩ := info_parts Try.info5
  have hne := fun (w : World) (a : Option Addr) (n c : Nat) => run_neq_slice_nil_any (P := Try.prog) w 30 5 a n c 0 0 Try.underlying30
  go_enter Try.func7, Try.ntmps7
  go_wp2_with (first | (at_make; refine wpList_make_full _ rfl _ _ 30 rfl w.heap.size 5 i0 (.int .u8 0) 1 Try.underlying30 hi hz0 hz1 _ _ _ _ 0 rfl rfl rfl rfl ?c1 ?c2 ?c3 ?_) | (go_at_call 18; go_in))
  case c1 => omega
  case c2 => exact Nat.zero_le _
  case c3 => exact Nat.le_refl _
  intro w1 hown1 hgrow1
  have HB : Hid (Below w.heap.size w w1) := (Below.refl _ _).grown hgrow1 (Nat.le_refl _) (fun _ h => by cases h)
  clear hown1 hgrow1
  go_wp2
  refine wp_loop_rounds 1 ?_
  rw [rounds_succ]
  go_wp2_with fail
  refine (zzexp_any (some ⟨w.heap.size, 0, none⟩) 0 0 (fun _ => 0) _ (by omega) (fun i hi => by omega)).mono ?_
  rintro e w' ⟨⟨k, hrk, rfl⟩, rfl⟩
  have hk0 : k = 0 := by
    by_cases e : k = 0
    · exact e
    · have := (hrk.1 0 (by omega)).1; omega
  subst hk0
  rw [expRes_zero]
  clear hrk
  go_wp2
  go_ret
  exact ⟨rfl, HB.out⟩

end Go.Proofs.Qxb6000357a
