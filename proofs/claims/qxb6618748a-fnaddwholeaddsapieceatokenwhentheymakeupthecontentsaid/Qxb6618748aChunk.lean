/-
  Seat b6618748a: AddChunk of a chunk of one token.
-/
import Derived.Test.Qxb6618748aAdd
namespace Go.Proofs.Qxb6618748a
open Go.RowKit
set_option linter.unusedVariables false
attribute [local go_sem] call47 run_store_float

set_option maxHeartbeats 4000000 in
set_option maxRecDepth 100000 in
theorem chunk_one (P n : Nat) (t : TokD) (b off tc : Nat) (ba : Option Addr) (bn bc : Nat) (ca : Option Addr) (cn cc : Nat) (ao : Option Addr) (cap nn : Nat) (xs : List Value) (w : World)
    (hP : PAt w P ao n cap nn) (hown : w.ownsRow (P + 1) 5 1 (.slice ao n cap) n xs) (hb : b < P) (hlim : n + (encTok t).length + 30000000 ≤ 140737488355328) (hnn : nn ≤ 1048576) (htc : 1 ≤ tc)
    (hTC : TokCells w b off t ba bn bc ca cn cc) (hT : TokAt w P t ba bn bc ca cn cc) :
    Calls Try.prog 41 #[.pointer (some ⟨P, 0, none⟩), .agg #[.string ByteArray.empty, .string t.tok, .slice (some ⟨b, off, none⟩) 1 tc]] w fun e w' => e = .returned (.tuple #[]) ∧
      ∃ ao' cap', PAt w' P ao' (n + (encPiece t).length) cap' (nn + 1) ∧ w'.ownsRow (P + 1) 5 1 (.slice ao' (n + (encPiece t).length) cap') (n + (encPiece t).length) (xs ++ Lib.byteCells (encPiece t)) ∧ Fr P (some P) w w' := by
  have hPs : P < w.heap.size := (Array.getElem?_eq_some_iff.1 hP).1
  have hts : t.tok.size ≤ 1048576 := hT.1.2.1
  have HP := hid hP
  have Hown := hid hown
  have HTC := hid hTC
  have HT := hid hT
  clear hP hown hTC hT
  go_enter Try.func41, Try.ntmps41
  go_wp2_with fail
  obtain ⟨W1, hW1⟩ : ∃ W1, W1 = w.alloc (.cells #[.string ByteArray.empty, .string t.tok, .slice (some ⟨b, off, none⟩) 1 tc] 46) := ⟨_, rfl⟩
  have hfr1 : Fr (P + 1) none w W1 := by rw [hW1]; exact (Fr.refl _ _ w).alloc (by omega) _
  have hbx1 : W1.heap[w.heap.size]? = some (.cells #[.string ByteArray.empty, .string t.tok, .slice (some ⟨b, off, none⟩) 1 tc] 46) := by rw [hW1]; exact box_new w _
  have hown1 : W1.ownsRow (P + 1) 5 1 (.slice ao n cap) n xs := by rw [hW1]; exact Hown.out.alloc _
  have hs1 : w.heap.size + 1 ≤ W1.heap.size := by rw [hW1]; simp
  rw [← hW1]
  clear hW1
  have HTC1 := hid (HTC.out.below hfr1.1 (show b < P + 1 by omega))
  refine (form_one b off tc t ba bn bc ca cn cc W1 HTC1.out (by omega) hts).mono ?_
  rintro e w2 ⟨rfl, hfr2⟩
  have hbx2 := hfr2.box hbx1 (by simp) (by decide)
  have hown2 := owns_below hown1 hfr2.1
  have hP2 := (HP.out.below hfr1.1 (by omega)).below hfr2.1 (by omega)
  have hfr2' : Fr (P + 1) none w w2 := hfr1.trans (hfr2.mono (by omega))
  have hs2 := hfr2.1.size
  have hc22 := box_cell hbx2 2
  simp only [List.getElem?_toArray, List.getElem?_cons_succ, List.getElem?_cons_zero] at hc22
  have HB2 := hid hbx2
  have HP2 := hid hP2
  clear hbx2 hP2 hbx1 hown1 hfr1 hfr2
  obtain ⟨g0, g1, g2, g3⟩ := HTC.out.below hfr2'.1 (show b < P + 1 by omega)
  have hbw : b < w2.heap.size := by omega
  have hlt0 : w.heap.size < w2.heap.size := by omega
  go_wp2_with fail
  refine wp_loop_rounds 2 ?_
  rw [rounds_succ]
  go_wp2_with fail
  go_region
  go_wp2_with fail
  rw [show ({ data := #[] } : ByteArray) = ByteArray.empty from rfl]
  obtain ⟨W3, hW3⟩ : ∃ W3, W3 = ((w2.alloc (.cells #[.string t.tok, .float .f64 t.bits, .slice ba bn bc, .slice ca cn cc] 31)).alloc (.cells #[.string ByteArray.empty, .string t.tok, .slice (some ⟨b, off, none⟩) 1 tc] 46)).drew := ⟨_, rfl⟩
  have hfr3 : Fr (P + 1) none w2 W3 := by rw [hW3]; exact (((Fr.refl _ _ w2).alloc (by omega) _).alloc (by simp; omega) _).drew
  have hown3 : W3.ownsRow (P + 1) 5 1 (.slice ao n cap) n xs := by rw [hW3]; exact ((hown2.alloc _).alloc _).drew
  rw [← hW3]
  clear hW3 g0 g1 g2 g3
  have hfr3w : Fr (P + 1) none w W3 := hfr2'.trans hfr3
  refine (add_one P n t b off tc ba bn bc ca cn cc ao cap nn xs W3 (HP2.out.below hfr3.1 (by omega)) hown3 hb hlim hnn (HTC.out.below hfr3w.1 (show b < P + 1 by omega)) (HT.out.below (hfr3w.1.mono (Nat.le_succ P)))).mono ?_
  rintro e w4 ⟨rfl, ao4, cap4, hP4, hown4, hfr4⟩
  go_wp2_with fail
  rw [rounds_succ]
  go_wp2_with fail
  go_end0
  exact ⟨rfl, ao4, cap4, hP4, hown4, ((hfr3w.mono (Nat.le_succ P)).any).trans hfr4⟩

end Go.Proofs.Qxb6618748a
