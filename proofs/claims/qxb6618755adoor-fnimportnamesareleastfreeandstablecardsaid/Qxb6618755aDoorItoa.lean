/-
  Seat b6618755aD: gfb1Itoa.
-/
import Derived.Test.Qxb6618755aDoorDec
import Derived.Laws.IdiomStrings
namespace Go.Proofs.Qxb6618755aDoor
open Go.RowKit
set_option linter.unusedVariables false

def pre (m : Nat) : List UInt8 := if m = 0 then [] else Lib.decDigits m
theorem pre_step (m : Nat) (h : 0 < m) : pre (m / 10) ++ [UInt8.ofNat (48 + m % 10)] = pre m := by
  unfold pre
  rw [if_neg (show ¬ m = 0 by omega), dec_step m]
  by_cases h10 : m < 10
  · rw [if_pos h10, if_pos (show m / 10 = 0 by omega)]
  · rw [if_neg h10, if_neg (show ¬ m / 10 = 0 by omega)]

/-- The array: its last cells hold the digits l, from place p on. -/
def Buf (w : World) (b p : Nat) (l : List UInt8) : Prop :=
  (∀ t, t < 20 → (∃ z, w.cell? ⟨b, t, none⟩ = some (.int .u8 z)) ∧ w.frozen? ⟨b, t, none⟩ = false) ∧
  ∀ t (h : t < l.length), w.cell? ⟨b, p + t, none⟩ = some (.int .u8 (l[t].toNat : Int))

def zeros20 : Array Value := #[.int .u8 0, .int .u8 0, .int .u8 0, .int .u8 0, .int .u8 0, .int .u8 0, .int .u8 0, .int .u8 0, .int .u8 0, .int .u8 0, .int .u8 0, .int .u8 0, .int .u8 0, .int .u8 0, .int .u8 0, .int .u8 0, .int .u8 0, .int .u8 0, .int .u8 0, .int .u8 0]
theorem zeros20_at : ∀ t, t < 20 → ∃ z, zeros20[t]? = some (.int .u8 z)
  | 0, _ => ⟨0, rfl⟩
  | 1, _ => ⟨0, rfl⟩
  | 2, _ => ⟨0, rfl⟩
  | 3, _ => ⟨0, rfl⟩
  | 4, _ => ⟨0, rfl⟩
  | 5, _ => ⟨0, rfl⟩
  | 6, _ => ⟨0, rfl⟩
  | 7, _ => ⟨0, rfl⟩
  | 8, _ => ⟨0, rfl⟩
  | 9, _ => ⟨0, rfl⟩
  | 10, _ => ⟨0, rfl⟩
  | 11, _ => ⟨0, rfl⟩
  | 12, _ => ⟨0, rfl⟩
  | 13, _ => ⟨0, rfl⟩
  | 14, _ => ⟨0, rfl⟩
  | 15, _ => ⟨0, rfl⟩
  | 16, _ => ⟨0, rfl⟩
  | 17, _ => ⟨0, rfl⟩
  | 18, _ => ⟨0, rfl⟩
  | 19, _ => ⟨0, rfl⟩
  | t + 20, h => absurd h (by omega)

theorem Buf.made (w : World) (T : TypeId) : Buf (w.alloc (.cells zeros20 T)) w.heap.size 20 [] := by
  refine ⟨fun t ht => ⟨?_, World.frozen?_alloc_new _ _ _ _⟩, fun t h => by simp at h⟩
  obtain ⟨z, hz⟩ := zeros20_at t ht
  exact ⟨z, (World.cell?_alloc_new _ _ _ _).trans hz⟩

theorem Buf.step {w : World} {b p : Nat} {l : List UInt8} (h : Buf w b p l) (hp : 1 ≤ p) (hpl : p + l.length = 20) (m : Nat) :
    Buf (w.setCell ⟨b, p - 1, none⟩ (.int .u8 (48 + (m : Int) % 10))) b (p - 1) (UInt8.ofNat (48 + m % 10) :: l) := by
  have hne : ∀ t, t ≠ p - 1 → ∀ v, (w.setCell ⟨b, p - 1, none⟩ v).cell? ⟨b, t, none⟩ = w.cell? ⟨b, t, none⟩ := fun t ht v => World.cell?_setCell_other _ _ _ _ (fun e => ht (by simpa using (congrArg Addr.off e).symm))
  have hsame : ∀ v, (w.setCell ⟨b, p - 1, none⟩ v).cell? ⟨b, p - 1, none⟩ = some v := fun v => by
    obtain ⟨z, hz⟩ := (h.1 (p - 1) (by omega)).1
    exact World.cell?_setCell_same _ _ _ hz
  refine ⟨fun t ht => ⟨?_, ?_⟩, fun t ht => ?_⟩
  · by_cases e : t = p - 1
    · subst e; exact ⟨_, hsame _⟩
    · rw [hne t e]; exact (h.1 t ht).1
  · rw [World.frozen?_setCell]; exact (h.1 t ht).2
  · cases t with
    | zero =>
      rw [Nat.add_zero, hsame]
      congr 2
      simp only [List.getElem_cons_zero]
      rw [digit_nat (Nat.mod_lt _ (by omega))]
      omega
    | succ t =>
      have ht' : t < l.length := by simpa using ht
      rw [hne _ (by omega), show p - 1 + (t + 1) = p + t by omega, h.2 t ht']
      rfl

theorem Turn.setCell {X : List Nat} {a w : World} (h : Turn X a w) {p : Addr} (hp : a.heap.size ≤ p.block) (v : Value) : Turn X a (w.setCell p v) :=
  ⟨h.os, h.tape, h.output, by simpa using h.size, fun k hk hX => (Below.heap_setCell _ _ _ _ (by omega)).trans (h.block k hk hX)⟩

theorem slice52 (w : World) (b p : Nat) (hp : p < 20) : (Instr.sliceAt 52 (.pointer (some ⟨b, 0, none⟩)) (some (.int .i64 (p : Int))) none none).run Tryd.prog w = .ok (.slice (some ⟨b, p, none⟩) (20 - p) (20 - p)) w := by
  have e1 : Tryd.prog.arrayLen 52 = 20 := by kernel_rfl
  have e2 : Tryd.prog.elem 52 = 5 := by kernel_rfl
  have e3 : (sizeOf 5).run Tryd.prog w = .ok 1 w := by kernel_rfl
  rw [run_sliceAt_array_l (P := Tryd.prog) w 52 ⟨b, 0, none⟩ (by rw [e1, e2]; exact Tryd.underlying52) .i64 p (by omega) (by rw [e1]; omega), e1, e2, e3]
  simp only [Result.andThen, slicedAt]
  rw [if_neg (by omega), Go.WideShapes.add_plain]
  simp

set_option maxHeartbeats 4000000 in
set_option maxRecDepth 100000 in
theorem itoa27 (j : Nat) (hj1 : 1 ≤ j) (hj : j < 1000000000) (w : World) :
    Calls Tryd.prog 27 #[.int .i64 j] w fun e w' => e = .returned (.string (num j)) ∧ Turn [] w w' := by
  have hlen : (Lib.decDigits j).length ≤ 9 := dec_len 8 j (by omega)
  have e0 : ((j : Int) == 0) = false := beq_eq_false_iff_ne.2 (by omega)
  go_enter Tryd.func27, Tryd.ntmps27
  go_wp2
  go_loopw [0, 4] (fun vn vi wr => ∃ (m p : Nat) (l : List UInt8), vn = .int .i64 m ∧ vi = .int .i64 p ∧ p + l.length = 20 ∧ m < 1000000000 ∧ Hid (pre m ++ l = Lib.decDigits j) ∧ Hid (Buf wr w.heap.size p l) ∧ Turn [] w wr) (fun vn _ _ => (intOf vn).toNat)
  case atStart => exact ⟨j, 20, [], rfl, rfl, rfl, hj, by show _ = _; unfold pre; rw [if_neg (by omega), List.append_nil], Buf.made w _, (Turn.refl _ _).alloc _⟩
  case round =>
    obtain ⟨m, p, l, rfl, rfl, hpl, hm, HE, HBf, hT⟩ := hrel
    by_cases h0 : 0 < m
    · have hp : 11 ≤ p := by
        have h1 := congrArg List.length HE.out
        rw [List.length_append] at h1
        omega
      obtain ⟨⟨z, hz⟩, hfz⟩ := HBf.out.1 (p - 1) (by omega)
      go_wp2
      go_round
      case rel =>
        refine ⟨m / 10, p - 1, UInt8.ofNat (48 + m % 10) :: l, by congr 1, by congr 1; omega, by simp; omega, by omega, ?_, HBf.out.step (by omega) hpl m, hT.setCell (Nat.le_refl _) _⟩
        show _ = _
        rw [← HE.out, ← pre_step m h0]
        simp
      case measure => simp [intOf]; omega
    · obtain rfl : m = 0 := by omega
      have hl : l = Lib.decDigits j := by
        have := HE.out
        simpa [pre] using this
      have hlp : l.length = 20 - p := by omega
      have hcv : ∀ cap, (convert 41 9 (.slice (some ⟨w.heap.size, p, none⟩) (20 - p) cap)).run Tryd.prog wr = .ok (.string ⟨l.toArray⟩) wr := fun cap => by
        rw [← hlp]
        exact run_convert_bytes_back wr 41 9 5 ⟨w.heap.size, p, none⟩ cap l Tryd.underlying41 Tryd.underlying5 Tryd.underlying9 (fun t ht => by rw [Go.WideShapes.add_plain]; exact HBf.out.2 t ht)
      have hsl := slice52 wr w.heap.size p (by have := dec_pos j; rw [← hl] at this; omega)
      have HL := hid hl
      clear hl hlp
      go_wp2
      go_ret
      exact ⟨by rw [HL.out]; rfl, hT⟩

end Go.Proofs.Qxb6618755aDoor
