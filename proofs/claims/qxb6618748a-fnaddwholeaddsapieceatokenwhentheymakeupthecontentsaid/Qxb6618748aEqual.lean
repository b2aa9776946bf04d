/-
  Seat b6618748a: bytesEqual at two rows of the same bytes; ZZpiecesN, ZZpiecesData.
-/
import Derived.Test.Qxb6618748aWire2
namespace Go.Proofs.Qxb6618748a
open Go.RowKit
set_option linter.unusedVariables false

theorem owns_cell {w : World} {B : Nat} {ao : Option Addr} {n cap : Nat} {L : List UInt8} (h : w.ownsRow B 5 1 (.slice ao n cap) n (Lib.byteCells L)) : L.length = n ∧ ∀ j, j < n → ∃ g u, ao = some ⟨g, 0, none⟩ ∧ L[j]? = some u ∧ w.cell? ⟨g, j, none⟩ = some (.int .u8 (u.toNat : Int)) := by
  have hl : L.length = n := by
    have := h.1
    rw [Lib.byteCells_length] at this
    omega
  refine ⟨hl, fun j hj => ?_⟩
  rcases h.2 with ⟨h1, h2⟩ | ⟨g, cap', cur, h1, hb, hg, _⟩
  · omega
  · cases h1
    have hu : L[j]? = some (L[j]'(by omega)) := List.getElem?_eq_getElem _
    have hc := h.cells (g := g) rfl j (.int .u8 ((L[j]'(by omega)).toNat : Int)) (by simp [Lib.byteCells, hu])
    refine ⟨g, L[j]'(by omega), rfl, hu, ?_⟩
    have hadd : (⟨g, 0, none⟩ : Addr).add j = ⟨g, j, none⟩ := by unfold Addr.add; split <;> simp_all
    rw [hadd] at hc
    exact hc

set_option maxHeartbeats 2000000 in
theorem equal_any (a1 a2 : Option Addr) (n c1 c2 B1 B2 : Nat) (L : List UInt8) (w : World) (hn : n ≤ 140737488355328) (h1 : w.ownsRow B1 5 1 (.slice a1 n c1) n (Lib.byteCells L)) (h2 : w.ownsRow B2 5 1 (.slice a2 n c2) n (Lib.byteCells L)) :
    Calls Try.prog 25 #[.slice a1 n c1, .slice a2 n c2] w fun e w' => e = .returned (.bool true) ∧ Drawn w w' := by
  have H1 := hid (owns_cell h1).2
  have H2 := hid (owns_cell h2).2
  clear h1 h2
  have hb : ((n : Int) != (n : Int)) = false := by simp
  by_cases h0 : n = 0
  · subst h0
    go_enter Try.func25, Try.ntmps25
    go_wp2_with fail
    refine wp_loop_rounds 1 ?_
    rw [rounds_succ]
    go_wp2_with fail
    go_ret
    exact ⟨rfl, drawn w 0⟩
  · obtain ⟨g1, _, rfl, _, _⟩ := H1.out 0 (by omega)
    obtain ⟨g2, _, rfl, _, _⟩ := H2.out 0 (by omega)
    go_enter Try.func25, Try.ntmps25
    go_wp2_with fail
    go_loopw [5] (fun vi wr => ∃ (k q : Nat), k ≤ n ∧ vi = .int .i64 k ∧ wr = w.drewN q) (fun vi _ => n - (intOf vi).toNat)
    case atStart => exact ⟨0, 0, Nat.zero_le _, rfl, rfl⟩
    case round =>
      obtain ⟨k, q, hk, rfl, hwr⟩ := hrel
      by_cases hlt : k < n
      · obtain ⟨g1', u1, e1, f1, k1⟩ := H1.out k hlt
        obtain ⟨g2', u2, e2, f2, k2⟩ := H2.out k hlt
        cases e1
        cases e2
        obtain rfl : u1 = u2 := Option.some.inj (f1.symm.trans f2)
        have k1' : wr.cell? ⟨g1, k, none⟩ = some (.int .u8 (u1.toNat : Int)) := by rw [hwr]; exact k1
        have k2' : wr.cell? ⟨g2, k, none⟩ = some (.int .u8 (u1.toNat : Int)) := by rw [hwr]; exact k2
        have hki : (k : Int) < (n : Int) := by omega
        have HW := hid hwr
        clear f1 f2 k1 k2 hwr
        go_wp2_with fail
        go_quiet (fail)
        go_wp2_with fail
        go_roundw
        case rel => exact ⟨k + 1, q + nq, by omega, by go_num, by rw [HW.out, World.drewN_drewN]⟩
        case measure => simp [intOf]; omega
      · go_wp2_with fail
        go_ret
        exact ⟨rfl, q, rfl⟩

theorem piecesN_any (P : Nat) (ao : Option Addr) (n cap nn : Nat) (w : World) (hP : PAt w P ao n cap nn) :
    Calls Try.prog 21 #[.pointer (some ⟨P, 0, none⟩)] w fun e w' => e = .returned (.int .i64 (nn : Int)) ∧ w = w' := by
  have h := box_cell hP 1
  simp only [List.getElem?_toArray, List.getElem?_cons_succ, List.getElem?_cons_zero] at h
  clear hP
  go_enter Try.func21, Try.ntmps21
  go_wp2
  go_ret
  exact ⟨rfl, rfl⟩

theorem piecesData_any (P : Nat) (ao : Option Addr) (n cap nn : Nat) (w : World) (hP : PAt w P ao n cap nn) :
    Calls Try.prog 16 #[.pointer (some ⟨P, 0, none⟩)] w fun e w' => e = .returned (.slice ao n cap) ∧ w = w' := by
  have h := box_cell hP 0
  simp only [List.getElem?_toArray, List.getElem?_cons_zero] at h
  clear hP
  go_enter Try.func16, Try.ntmps16
  go_wp2
  go_ret
  exact ⟨rfl, rfl⟩

end Go.Proofs.Qxb6618748a
