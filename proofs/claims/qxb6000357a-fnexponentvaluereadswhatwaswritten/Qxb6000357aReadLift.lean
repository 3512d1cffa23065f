import Derived.Test.Qxb6000357aRows
import Derived.WalkKit
import Derived.ProofKit
import Derived.OpenShut
import Derived.ShutString
import Derived.Test.Qxb6000357aReadW
namespace Go.Proofs.Qxb6000357a.fnExponentValueReadsWhatWasWritten
open Go.ChangeShapes Go.WideShapes Go.ChangeAt Go.RowKit
open Go.ChangeMaps (open_string shut_string)
set_option linter.unusedVariables false      -- a walk need not use every 'w<i>' (that an integer argument fits its kind)

theorem own : ownKnob Try.prog.godebug = none := by kernel_rfl

/-! ### STEP 1: the walk -/
theorem walk_long (a0 a1 a2 : Int) (a3 : ByteArray) (a4 : Bool) (w : World) (h : 1048576 < a3.size) (hm : a3.size ≤ 9223372036854775807) :
    Calls Try.prog 6 #[.int .u64 a0, .int .u8 a1, .int .u8 a2, .string a3, .bool a4] w fun e w' => e = .returned (.bool true) ∧ Below w.heap.size w w' := by
  go_enter Try.func6, Try.ntmps6
  go_wp2
  go_ret
  exact ⟨rfl, Below.refl _ _⟩
theorem walk_mid (a0 a1 a2 : Int) (a3 : ByteArray) (a4 : Bool) (w : World) (h1 : a3.size ≤ 1048576) (h : 65536 < a3.size) :
    Calls Try.prog 6 #[.int .u64 a0, .int .u8 a1, .int .u8 a2, .string a3, .bool a4] w fun e w' => e = .returned (.bool true) ∧ Below w.heap.size w w' := by
  go_enter Try.func6, Try.ntmps6
  go_wp2
  go_ret
  exact ⟨rfl, Below.refl _ _⟩
set_option maxRecDepth 100000 in
theorem walk_dig (a0 a1 a2 : Int) (a3 : ByteArray) (a4 : Bool) (w : World) (h1 : a3.size ≤ 65536) (h0 : 0 < a3.size) (hd : dig ((a3[0]'h0).toNat : Int) = true) :
    Calls Try.prog 6 #[.int .u64 a0, .int .u8 a1, .int .u8 a2, .string a3, .bool a4] w fun e w' => e = .returned (.bool true) ∧ Below w.heap.size w w' := by
  have h0i : (0 : Int) < (a3.size : Int) := by omega
  have HD : Hid (dig ((a3[0]'h0).toNat : Int) = true) := hd
  clear hd
  go_enter Try.func6, Try.ntmps6
  go_wp2_with (go_at_call 15; refine (zzB15 _ _ _ _ _ _ (by omega)).mono ?_; rintro e w' ⟨rfl, rfl⟩)
  refine (zzDigit_yes _ _ HD.out).mono ?_
  rintro e w' ⟨rfl, hw⟩
  obtain rfl := hw.symm
  go_wp2
  go_ret
  exact ⟨rfl, Below.refl _ _⟩

theorem walk (a0 : Int) (a1 : Int) (a2 : Int) (a3 : ByteArray) (a4 : Bool) (w0 : (Lit.int .u64 a0).wf = true) (w1 : (Lit.int .u8 a1).wf = true) (w2 : (Lit.int .u8 a2).wf = true) (w3 : a3.size ≤ maxLen) (w : World) :
    Calls Try.prog 6 #[.int .u64 a0, .int .u8 a1, .int .u8 a2, .string a3, .bool a4] w fun e w' => e = .returned (.bool true) ∧ Below w.heap.size w w' := by
  unfold maxLen at w3
  by_cases h1 : 1048576 < a3.size
  · exact walk_long a0 a1 a2 a3 a4 w h1 w3
  by_cases h2 : 65536 < a3.size
  · exact walk_mid a0 a1 a2 a3 a4 w (by omega) h2
  by_cases h0 : 0 < a3.size
  · cases hd : dig ((a3[0]'h0).toNat : Int)
    · exact read_core a0 a1 a2 a3 a4 w (bounds_u64 w0) (bounds_u8 w1) (bounds_u8 w2) (by omega) (fun _ => hd)
    · exact walk_dig a0 a1 a2 a3 a4 w (by omega) h0 hd
  · exact read_core a0 a1 a2 a3 a4 w (bounds_u64 w0) (bounds_u8 w1) (bounds_u8 w2) (by omega) (fun h => absurd h h0)

/-! ### THE ROW's STEP: WRITTEN OUT: LEAVE IT -/
set_option maxRecDepth 100000 in
theorem lifted (os : Os) (started : os.Started) (H : Type) (enc : TypeId × Value → H) :
    ReturnsInHanded {} Try.checked os 6 .any (Rows.fnExponentValueReadsWhatWasWrittenSpec.pre6 enc Try.prog Try.f6 Rows.fnExponentValueReadsWhatWasWrittenRow.domain false) (Rows.fnExponentValueReadsWhatWasWrittenSpec.post enc Try.prog Try.f6 false true false false) := by
  refine returnsInHanded_of_change (C := Try.checked) own started (by kernel_rfl) Try.func6
    (ChangeSpec.witness6 (enc := enc) (C := Try.checked) false ⟨#[], #[.int .u64 0, .int .u8 0, .int .u8 0, .string ByteArray.empty, .bool false], []⟩ 8 (by kernel_rfl) (by kernel_rfl) (by kernel_rfl) (by kernel_rfl)) ?_
  intro W base args ds gs before hval0 hW hcnd _
  have hval : ∀ (j : Nat) t v, Try.f6.params[j]? = some t → args[j]? = some v → Value.okWide Try.prog W .any base t v := hval0
  have hW' := hW
  obtain ⟨p, q, hA0, hV, rfl, hfz, hnd⟩ := hW
  have hA : DataW.TrodAll enc Try.prog W 0 (fun _ => true) true Try.f6.params.toList args.toList ds p := hA0
  rw [Try.params6] at hA hval
  obtain ⟨v0, vs0, d0, ds0, p0, q0, hargs, rfl, rfl, h0, r0⟩ := trodAll_cons hA
  obtain ⟨v1, vs1, d1, ds1, p1, q1, rfl, rfl, rfl, h1, r1⟩ := trodAll_cons r0
  obtain ⟨v2, vs2, d2, ds2, p2, q2, rfl, rfl, rfl, h2, r2⟩ := trodAll_cons r1
  obtain ⟨v3, vs3, d3, ds3, p3, q3, rfl, rfl, rfl, h3, r3⟩ := trodAll_cons r2
  obtain ⟨v4, vs4, d4, ds4, p4, q4, rfl, rfl, rfl, h4, r4⟩ := trodAll_cons r3
  obtain ⟨rfl, rfl, rfl⟩ := trodAll_nil r4
  obtain rfl : args = #[v0, v1, v2, v3, v4] := by cases args; simp_all
  obtain ⟨rfl, rfl⟩ := trodVars_none hV
  obtain ⟨a0, rfl, rfl, rfl, w0⟩ := open_int Try.underlying27 (hval 0 27 v0 rfl rfl) h0
  obtain ⟨a1, rfl, rfl, rfl, w1⟩ := open_int Try.underlying5 (hval 1 5 v1 rfl rfl) h1
  obtain ⟨a2, rfl, rfl, rfl, w2⟩ := open_int Try.underlying5 (hval 2 5 v2 rfl rfl) h2
  obtain ⟨a3, rfl, rfl, rfl, w3⟩ := open_string Try.underlying9 (hval 3 9 v3 rfl rfl) h3
  obtain ⟨a4, rfl, rfl, rfl⟩ := open_bool Try.underlying4 (hval 4 4 v4 rfl rfl) h4
  clear hA0 hval0
  simp only [List.append_nil] at hW'
  refine (walk a0 a1 a2 a3 a4 w0 w1 w2 w3 W).mono fun e W' ⟨he, hg⟩ => ?_
  subst he
  exact ⟨_, rfl, _, _, _, [], _, [], hW', trodAll_mk1 (shut_bool Try.underlying4 _), (trodAll_cons_mk (shut_int Try.underlying27 w0) (trodAll_cons_mk (shut_int Try.underlying5 w1) (trodAll_cons_mk (shut_int Try.underlying5 w2) (trodAll_cons_mk (shut_string Try.underlying9 w3) (trodAll_cons_mk (shut_bool Try.underlying4 _) trodAll_mk0))))), rfl, hg.frame _, fun h => by cases h⟩

end Go.Proofs.Qxb6000357a.fnExponentValueReadsWhatWasWritten
