/-
  Seat b6618748a: nextChunk where the first token's text is the text's start; addText's closure.
-/
import Derived.Test.Qxb6618748aChunk
namespace Go.Proofs.Qxb6618748a
open Go.RowKit
set_option linter.unusedVariables false
attribute [local go_sem] call47 run_store_float

theorem fr_drewN (B : Nat) (b : Option Nat) (w : World) (n : Nat) : Fr B b w (w.drewN n) := ⟨⟨rfl, rfl, rfl, Nat.le_refl _, fun _ _ => rfl⟩, fun _ _ h _ _ => h⟩

set_option maxHeartbeats 1000000 in
theorem next_any (s p : ByteArray) (r : List UInt8) (b off m c : Nat) (w : World) (h : s.data.toList = p.data.toList ++ r) (hs : s.size ≤ 1048576) (hm : 1 ≤ m) (hc0 : w.cell? ⟨b, off, none⟩ = some (.string p)) :
    Calls Try.prog 39 #[.string s, .slice (some ⟨b, off, none⟩) m c] w fun e w' => e = .returned (.tuple #[.int .i64 1, .int .i64 (p.size : Int), .bool true]) ∧ Fr w.heap.size none w w' := by
  have HH := hid h
  clear h
  have hm0 : 0 < m := by omega
  have hmi : (0 : Int) < (m : Int) := by omega
  go_enter Try.func39, Try.ntmps39
  go_wp2_with fail
  refine (hasPrefix_any s p r _ HH.out hs).mono ?_
  rintro e w' ⟨rfl, rfl⟩
  go_wp2_with fail
  go_quiet (fail)
  go_wp2_with fail
  go_ret3
  exact ⟨rfl, fr_drewN _ _ _ _⟩

set_option maxHeartbeats 1000000 in
theorem closure_any (s : ByteArray) (a : Option Addr) (m c R : Nat) (w : World) (hR : w.cell? ⟨R, 0, none⟩ = some (.bool false)) (hRs : R < w.heap.size) :
    Calls Try.prog 40 #[.string s, .slice a m c, .pointer (some ⟨R, 0, none⟩)] w fun e w' => e = .returned (.agg #[.string ByteArray.empty, .string s, .slice a m c]) ∧ Fr w.heap.size none w w' := by
  go_enter Try.func40, Try.ntmps40
  go_wp2
  refine bodyPost_ret (v := .agg #[.string ByteArray.empty, .string s, .slice a m c]) (by simp [results, Try.results40, go_sem]; rfl) rfl ⟨rfl, ?_⟩
  exact (Fr.refl _ _ _).alloc (Nat.le_refl _) _

end Go.Proofs.Qxb6618748a
