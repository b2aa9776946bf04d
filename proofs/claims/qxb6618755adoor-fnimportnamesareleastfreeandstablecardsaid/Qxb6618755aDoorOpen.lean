/-
  Seat b6618755aD: from the row's reading to the memory facts that the walks ask: slices of strings; the listed table.
-/
import Derived.Test.Qxb6618755aDoorTie
import Derived.Test.Qxb6618755aDoorFile
import Derived.ProofKit
import Derived.LaidMore
import Derived.OpenShut
import Derived.ShutString
import Derived.ChangeOld
import Derived.Carry
import Derived.Stop.Joined
import Derived.Deep.Slices
import Derived.Lib.LaidTab
namespace Go.Proofs.Qxb6618755aDoor
open Go.RowKit Go.Deep Go.ChangeShapes Go.WideShapes
set_option linter.unusedVariables false

theorem own : ownKnob Tryd.prog.godebug = none := by kernel_rfl
theorem laidOut : laidOutB Tryd.prog = true := by kernel_rfl

section
variable {H : Type} {enc : TypeId × Value → H} {w : World} {spare : Nat → Bool} {held : Bool} {fuel : Nat} {x : DataW H × List MemPlace}

theorem cells9 : Tryd.prog.cellsOf 9 = 1 := by kernel_rfl

theorem open_strs {v : Value} (h : DataW.trod enc Tryd.prog w 0 spare held fuel 22 [v] = some x) : ∃ a n c xs, v = .slice a n c ∧ StrsAt w w.heap.size a n xs := by
  rcases open_slice1 Tryd.underlying22 cells9 h with ⟨hcs, _⟩ | ⟨a, len, cap, m, n, V, D, Pl, hcs, _, hl, hm, hmm, _, hx⟩
  · simp only [List.cons.injEq, and_true] at hcs
    exact ⟨none, 0, 0, [], hcs, rfl, by omega, by simp, fun i hi => by omega⟩
  · simp only [List.cons.injEq, and_true] at hcs
    unfold maxLen at hm
    have hlm : len ≤ m := by rw [hmm]; split <;> omega
    have each : ∀ i, i < len → ∃ s : ByteArray, V i = .string s ∧ s.size ≤ 9223372036854775807 := by
      intro i hi
      obtain ⟨_, ht⟩ := hx i (by omega)
      obtain ⟨s, hs, _, hsm⟩ := DataW.trod_string Tryd.underlying9 ht
      simp only [List.cons.injEq, and_true] at hs
      exact ⟨s, hs, by unfold maxLen at hsm; exact hsm⟩
    haveI : Inhabited ByteArray := ⟨ByteArray.empty⟩
    obtain ⟨F, hF⟩ := choose_lt each
    refine ⟨some a, len, cap, (List.range len).map F, hcs, by simp, by omega, fun y hy => ?_, fun i hi => ?_⟩
    · obtain ⟨i, hi, rfl⟩ := List.mem_map.1 hy
      exact (hF i (List.mem_range.1 hi)).2
    · obtain ⟨b, off, sp⟩ := a
      have h0 := (hx 0 (by omega)).1
      have hs : sp = none := by simpa [Addr.add] using World.cell?_spot h0
      subst hs
      have hi' := (hx i (by omega)).1
      rw [add_plain] at hi'
      refine ⟨b, off, rfl, World.block_lt_of_cell? w _ hi', ?_⟩
      rw [hi', (hF i hi).1, List.getD_eq_getElem?_getD, List.getElem?_map, List.getElem?_range hi]
      rfl
end

/-! ### the listed tables -/

def laid3 : List (String × DataW Unit) := [("math/bits.deBruijn32tab", Rows.laid_math_bits_deBruijn32tab), ("math/bits.deBruijn64tab", Rows.laid_math_bits_deBruijn64tab), ("internal/strconv.uint64pow10", Rows.laid_internal_strconv_uint64pow10)]

theorem pow10_is : (Rows.laid_internal_strconv_uint64pow10 : DataW Unit) = Lib.tabData .u64 Lib.pow10Tab := by rfl

theorem gPow : Tryd.prog.globalNamed "internal/strconv.uint64pow10" = some 1 := by kernel_rfl
theorem tPow : (Tryd.prog.globals[1]?).map (·.type) = some 64 := by kernel_rfl

/-- The door's own heap meets the condition. -/
theorem door_met (os : Os) (args : Array Value) : laidMetH Tryd.prog laid3 ((World.doorLaid Tryd.prog 24 os).forCall (fun _ _ => 0) ⟨#[], args, []⟩).memory :=
  laidMetH_of_parts3 (fuel := 8) (laidMet_of_run' 8 (by kernel_rfl) (by kernel_rfl)) (by kernel_rfl) (by kernel_rfl)

theorem tab_of_laid {W : World} (h : laidMetH Tryd.prog laid3 W) : Tab W.heap.size W := by
  rw [MakeChecks.laidMetH_plain _ _ _ (by kernel_rfl)] at h
  obtain ⟨ps, ⟨g0, t0, cs0, f0, p0, q0, hg0, ht0, hv0, hd0, ⟨g1, t1, cs1, f1, p1, q1, hg1, ht1, hv1, hd1, ⟨g2, t2, cs2, f2, p2, q2, hg2, ht2, hv2, hd2, _, _⟩, _⟩, _⟩, _, _⟩ := h
  obtain rfl := Option.some.inj (gPow.symm.trans hg2)
  obtain rfl := Option.some.inj (tPow.symm.trans ht2)
  refine Lib.tabBelow_of_tabIs ?_
  rw [pow10_is] at hd2
  have := Lib.cells_of_tab Tryd.underlying64 Tryd.underlying57 (by kernel_rfl) (by kernel_rfl) hd2
  unfold Lib.TabIs
  rw [hv2, ← this]

end Go.Proofs.Qxb6618755aDoor
