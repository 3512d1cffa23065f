import Derived.Test.Qxb6601120aSumF
namespace Go.Proofs.Qxb6601120a
open Go.RowKit
open Go.Maps (Keyed has size)
open Go.WideMaps
set_option linter.unusedVariables false

/-- two maps that read alike agree -/
theorem agree_on (mx my : Option Nat) (Nx Ny : Nat) (D : DataW Unit) (a : Option Addr) (cap : Nat) (es : List (ByteArray × Int)) (nb : Bool) (n1 n2 n3 n4 n5 : Int) (w : World) (hs : Small es) (h : EntsAt w a es) (hx : Opt mx Nx D w) (hy : Opt my Ny D w) :
    Calls Try.prog 11 #[.map mx, .map my, .agg #[.slice a es.length cap, .bool nb, .int .i64 n1, .int .i64 n2, .int .i64 n3, .int .i64 n4, .int .i64 n5]] w fun e w' => e = .returned (.bool true) ∧ Below w.heap.size w w' := by
  have HP : Hid (EntsAt w a es) := h
  have HS : Hid (Small es) := hs
  have hlen := hs.1
  have HB : ∀ o, Hid (Below w.heap.size w (w.alloc o)) := fun o => (Below.refl _ _).alloc (Nat.le_refl _) o
  have HX : ∀ o, Hid (Opt mx Nx D (w.alloc o)) := fun o => hx.alloc o
  have HY : ∀ o, Hid (Opt my Ny D (w.alloc o)) := fun o => hy.alloc o
  clear h hs hx hy
  go_enter Try.func11, Try.ntmps11
  go_wp2
  go_loop [7, 8, 9, 10, 11, 12] (fun v7 _ _ _ _ _ => ∃ i : Nat, i ≤ es.length ∧ v7 = .int .i64 i) (fun v7 _ _ _ _ _ => es.length - (intOf v7).toNat)
  case atStart => exact ⟨0, by omega, rfl⟩
  case round =>
    obtain ⟨i, hi, rfl⟩ := hrel
    by_cases hlt : i < es.length
    · have hki : (i : Int) < (es.length : Int) := by omega
      obtain ⟨b, off, e, rfl, he, hb, hc0, hc1⟩ := HP.out i hlt
      have hts := HS.out.2 _ (List.mem_of_getElem? he)
      obtain ⟨t, m⟩ := e
      dsimp only at hc0 hc1 hts
      have hlx := fun o => (HX o).out.lookok (t := t) (by unfold maxLen; omega)
      have hly := fun o => (HY o).out.lookok (t := t) (by unfold maxLen; omega)
      obtain ⟨v, hv⟩ : ∃ v, v = valAt D (keyLit t) := ⟨_, rfl⟩
      obtain ⟨q, hq⟩ : ∃ q, q = has D (keyLit t) := ⟨_, rfl⟩
      rw [← hv, ← hq] at hlx hly
      have hn1 : (q != q) = false := by simp
      have hn2 : (v != v) = false := by simp
      clear he hv hq
      go_wp2
      go_round
      case rel => exact ⟨i + 1, by omega, by go_num⟩
      case measure => simp [intOf]; omega
    · have hki : decide ((i : Int) < (es.length : Int)) = false := decide_eq_false (by omega)
      go_wp2
      go_ret
      exact ⟨rfl, (HB _).out⟩

end Go.Proofs.Qxb6601120a
