import Derived.Test.Qxb6601111aCmd
import Derived.Test.Qxb6601111aModel
namespace Go.Proofs.Qxb6601111a
open Go.RowKit
set_option linter.unusedVariables false

theorem zzB18 (s : ByteArray) (w : World) (ht : s.size ≤ 1048576) :
    Calls Try.prog 18 #[.string s] w fun e w' => e = .returned (.bool true) ∧ w = w' := by
  go_enter Try.func18, Try.ntmps18
  go_wp2
  go_ret
  exact ⟨rfl, rfl⟩

theorem zzcmd_any (s : ByteArray) (w : World) (hs : s.size ≤ 1048576) :
    Calls Try.prog 19 #[.string s] w fun e w' => e = .returned (.string (strOfNums (cmdF false (bytesOf s)))) ∧ Below w.heap.size w w' := by
  go_enter Try.func19, Try.ntmps19
  go_wp2_with fail
  refine (cmd_any s _ hs).mono ?_
  rintro e w' ⟨rfl, hb⟩
  have HB : Hid (Below w.heap.size w w') := hb
  clear hb
  go_wp2
  go_ret
  exact ⟨rfl, HB.out⟩

theorem cmdline_core (s : ByteArray) (w : World) (hs : s.size ≤ 1048576) :
    Calls Try.prog 5 #[.string s] w fun e w' => e = .returned (.bool true) ∧ Below w.heap.size w w' := by
  go_enter Try.func5, Try.ntmps5
  go_wp2_with (go_at_call 18; refine (zzB18 _ _ (by omega)).mono ?_; rintro e w' ⟨rfl, hw⟩; obtain rfl := hw)
  refine (zzcmd_any s _ hs).mono ?_
  rintro e w1 ⟨rfl, hb⟩
  have HB : Hid (Below w.heap.size w w1) := hb
  clear hb
  go_wp2_with fail
  refine (model_any s _ hs).mono ?_
  rintro e w2 ⟨rfl, hb⟩
  have HB2 : Hid (Below w.heap.size w w2) := HB.out.trans (hb.mono HB.out.size)
  clear hb
  rw [three_pass]
  generalize strOfNums (cmdF false (bytesOf s)) = r
  go_wp2
  go_ret
  exact ⟨by simp, HB2.out⟩

end Go.Proofs.Qxb6601111a
