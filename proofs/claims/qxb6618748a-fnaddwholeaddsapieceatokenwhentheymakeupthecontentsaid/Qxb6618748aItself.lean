/-
  Seat b6618748a: isTokenItself.
-/
import Derived.Test.Qxb6618748aText2
import Derived.Deep.QuietTactic
import Derived.BigQuiet
namespace Go.Proofs.Qxb6618748a
open Go.RowKit
set_option linter.unusedVariables false

theorem call47 (b : Nat) (w : World) : (callFunc 47 #[.float .f64 b]).run Try.prog w = .ok (.value (.int .u64 (b : Int))) w := by kernel_rfl
attribute [local go_sem] call47

/-- The world behind isTokenItself: two boxes and some draws. -/
theorem fr_two (w : World) (o1 o2 : Obj) (n : Nat) : Fr w.heap.size none w (((w.alloc o1).alloc o2).drewN n) := by
  have h := ((Fr.refl w.heap.size none w).alloc (Nat.le_refl _) o1).alloc (by simp) o2
  exact ⟨⟨rfl, rfl, rfl, h.1.size, h.1.block⟩, h.2⟩

set_option maxHeartbeats 1000000 in
theorem itself_tok (t c : ByteArray) (tb cb : Nat) (to co : Option Addr) (tn tc cn cc : Nat) (tv : Value) (w : World) (h : c ≠ t) :
    Calls Try.prog 48 #[.agg #[.string t, .float .f64 tb, .slice to tn tc, tv], .agg #[.string c, .float .f64 cb, .slice co cn cc]] w fun e w' => e = .returned (.bool false) ∧ Fr w.heap.size none w w' := by
  have hb : (c.toList == t.toList) = false := by
    rw [beq_eq_false_iff_ne]
    intro e
    rw [ByteArray.toList_eq, ByteArray.toList_eq] at e
    exact h (ByteArray.ext (Array.toList_inj.mp e))
  clear h
  go_enter Try.func48, Try.ntmps48
  go_wp2_with fail
  go_quiet (fail)
  go_wp2_with fail
  go_ret
  exact ⟨rfl, fr_two _ _ _ _⟩

set_option maxHeartbeats 1000000 in
theorem itself_bits (t : ByteArray) (tb cb : Nat) (to co : Option Addr) (tn tc cn cc : Nat) (tv : Value) (w : World) (h : cb ≠ tb) :
    Calls Try.prog 48 #[.agg #[.string t, .float .f64 tb, .slice to tn tc, tv], .agg #[.string t, .float .f64 cb, .slice co cn cc]] w fun e w' => e = .returned (.bool false) ∧ Fr w.heap.size none w w' := by
  have hb : ((cb : Int) != (tb : Int)) = true := by rw [bne_iff_ne]; omega
  clear h
  go_enter Try.func48, Try.ntmps48
  go_wp2_with fail
  go_quiet (fail)
  go_wp2_with fail
  go_ret
  exact ⟨rfl, fr_two _ _ _ _⟩

set_option maxHeartbeats 1000000 in
theorem itself_nil1 (t : ByteArray) (tb : Nat) (to : Addr) (tn tc cn cc : Nat) (tv : Value) (w : World) :
    Calls Try.prog 48 #[.agg #[.string t, .float .f64 tb, .slice (some to) tn tc, tv], .agg #[.string t, .float .f64 tb, .slice none cn cc]] w fun e w' => e = .returned (.bool false) ∧ Fr w.heap.size none w w' := by
  have hne := Lib.run_eql_slice_nil (P := Try.prog)
  go_enter Try.func48, Try.ntmps48
  go_wp2_with fail
  go_quiet (fail)
  go_wp2_with fail
  go_ret
  exact ⟨rfl, fr_two _ _ _ _⟩

set_option maxHeartbeats 1000000 in
theorem itself_nil2 (t : ByteArray) (tb : Nat) (co : Addr) (tn tc cn cc : Nat) (tv : Value) (w : World) :
    Calls Try.prog 48 #[.agg #[.string t, .float .f64 tb, .slice none tn tc, tv], .agg #[.string t, .float .f64 tb, .slice (some co) cn cc]] w fun e w' => e = .returned (.bool false) ∧ Fr w.heap.size none w w' := by
  have hne := Lib.run_eql_slice_nil (P := Try.prog)
  go_enter Try.func48, Try.ntmps48
  go_wp2_with fail
  go_quiet (fail)
  go_wp2_with fail
  go_ret
  exact ⟨rfl, fr_two _ _ _ _⟩

set_option maxHeartbeats 1000000 in
theorem itself_len (t : ByteArray) (tb : Nat) (to co : Addr) (tn tc cn cc : Nat) (tv : Value) (w : World) (h : cn ≠ tn) :
    Calls Try.prog 48 #[.agg #[.string t, .float .f64 tb, .slice (some to) tn tc, tv], .agg #[.string t, .float .f64 tb, .slice (some co) cn cc]] w fun e w' => e = .returned (.bool false) ∧ Fr w.heap.size none w w' := by
  have hne := Lib.run_eql_slice_nil (P := Try.prog)
  have hb : ((cn : Int) != (tn : Int)) = true := by rw [bne_iff_ne]; omega
  clear h
  go_enter Try.func48, Try.ntmps48
  go_wp2_with fail
  go_quiet (fail)
  go_wp2_with fail
  go_ret
  exact ⟨rfl, fr_two _ _ _ _⟩

set_option maxHeartbeats 1000000 in
theorem itself_none (t : ByteArray) (tb : Nat) (tc cc : Nat) (tv : Value) (w : World) :
    Calls Try.prog 48 #[.agg #[.string t, .float .f64 tb, .slice none 0 tc, tv], .agg #[.string t, .float .f64 tb, .slice none 0 cc]] w fun e w' => e = .returned (.bool true) ∧ Fr w.heap.size none w w' := by
  have hne := Lib.run_eql_slice_nil (P := Try.prog)
  go_enter Try.func48, Try.ntmps48
  go_wp2_with fail
  go_quiet (fail)
  go_wp2_with fail
  refine wp_loop_rounds 1 ?_
  rw [rounds_succ]
  go_wp2_with fail
  go_ret
  exact ⟨rfl, fr_two _ _ _ _⟩

end Go.Proofs.Qxb6618748a
