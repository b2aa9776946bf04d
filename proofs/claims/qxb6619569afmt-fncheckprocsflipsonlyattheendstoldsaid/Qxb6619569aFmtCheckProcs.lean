/-
  The walks over checkProcs and the two laws of seat b6619569aF (told cards over fmt.errorf).
-/
import Derived.Test.Qxb6619569aFmtCards
import Derived.WalkKit
import Derived.WalkSpells
import Derived.WalkLawsBesides
import Derived.Stop.CallBack
import Derived.Stop.IfaceNil
namespace Go.Proofs.Qxb6619569aFmt
open Go.RowKit Go.Extern.Stop Go.Stop Go.Extern

theorem call8 (args : Array Value) (w : World) : (callFunc 8 args).run Tryf.prog w = ((FmtStop.errorf #[9, 28] #[23] args).run Tryf.prog w).andThen fun v w' => .ok (.value v) w' :=
  run_callFunc_extern Tryf.func8 (by kernel_rfl) (by kernel_rfl) (by kernel_rfl) (by kernel_rfl) args w
theorem guard (name : String) (w : World) : (FmtStop.guard name).run Tryf.prog w = .ok () w := by kernel_rfl
theorem fmt0 : FmtStop.printed? ⟨#[107, 101, 121, 32, 103, 111, 109, 97, 120, 112, 114, 111, 99, 115, 32, 105, 115, 32, 37, 100, 44, 32, 119, 97, 110, 116, 32, 49, 32, 116, 111, 32, 37, 100]⟩ 2 = some [(0, 100, false), (1, 100, false)] := by kernel_rfl
theorem fmt0r (w : World) : (FmtDoors.printed ⟨#[107, 101, 121, 32, 103, 111, 109, 97, 120, 112, 114, 111, 99, 115, 32, 105, 115, 32, 37, 100, 44, 32, 119, 97, 110, 116, 32, 49, 32, 116, 111, 32, 37, 100]⟩ 2).run Tryf.prog w = .ok [(0, 100, false), (1, 100, false)] w := by kernel_rfl
def shape2 : List UInt8 := [5, 5, 0, 0, 0, 0, 0, 0, 0, 105, 110, 116, 54, 52]
def shape3 : List UInt8 := [5, 3, 0, 0, 0, 0, 0, 0, 0, 105, 110, 116]
theorem op2 (name : String) (x : Int) (w : World) : (FmtStop.operand name true 100 false (.iface 2 (.int .i64 x))).run Tryf.prog w = .ok (shape2, Go.Extern.Stop.digits 8 (x % 2 ^ 64).toNat) w := by kernel_rfl
theorem op3 (name : String) (x : Int) (w : World) : (FmtStop.operand name true 100 false (.iface 3 (.int .i64 x))).run Tryf.prog w = .ok (shape3, Go.Extern.Stop.digits 8 (x % 2 ^ 64).toNat) w := by kernel_rfl
theorem ptr31 (w : World) : (FmtStop.ptrTo "errors.errorString").run Tryf.prog w = .ok 31 w := by kernel_rfl
theorem elem31 (w : World) : (elemOf 31).run Tryf.prog w = .ok 33 w := by kernel_rfl
theorem isError31 (w : World) : (FmtDoors.textMethod 31 "Error").run Tryf.prog w = .ok true w := by kernel_rfl
attribute [local go_sem] call8 guard fmt0 fmt0r op2 op3 ptr31 elem31 isError31

set_option maxHeartbeats 400000 in
theorem cp_bad (F : Interp) (n : Int) (w : World) (hF : F.answers w.tape) (hn : n < 1 ∨ 1024 < n) :
    Calls Tryf.prog 5 #[.int .i64 n] w fun e w' => (∃ a, e = .returned (.iface 31 (.pointer (some a)))) ∧ w'.tape = w.tape ∧ Below w.heap.size w w' := by
  have hF' := answers_open hF
  rcases hn with hn | hn
  · go_enter Tryf.func5, Tryf.ntmps5
    go_wp2
    go_ret
    exact ⟨⟨_, rfl⟩, rfl, (((Below.refl _ w).alloc (Nat.le_refl _) _).alloc (by simp) _).drew⟩
  · have hn' : ¬ n < 1 := by omega
    go_enter Tryf.func5, Tryf.ntmps5
    go_wp2
    go_ret
    exact ⟨⟨_, rfl⟩, rfl, (((Below.refl _ w).alloc (Nat.le_refl _) _).alloc (by simp) _).drew⟩

theorem cp_ok (n : Int) (w : World) (h1 : 1 ≤ n) (h2 : n ≤ 1024) :
    Calls Tryf.prog 5 #[.int .i64 n] w fun e w' => e = .returned .nilIface ∧ w' = w := by
  have h1' : ¬ n < 1 := by omega
  have h2' : ¬ 1024 < n := by omega
  go_enter Tryf.func5, Tryf.ntmps5
  go_wp2
  go_ret
  exact ⟨rfl, rfl⟩

end Go.Proofs.Qxb6619569aFmt
