/-
  Seat b6618748a: Add of a piece of one token.
-/
import Derived.Test.Qxb6618748aForm
namespace Go.Proofs.Qxb6618748a
open Go.RowKit
set_option linter.unusedVariables false
attribute [local go_sem] call47 run_store_float

/-- The Pieces in block P: its data and its count. -/
def PAt (w : World) (P : Nat) (ao : Option Addr) (n cap nn : Nat) : Prop := w.heap[P]? = some (.cells #[.slice ao n cap, .int .i64 (nn : Int)] 41 (0, 0))

theorem box_free {w : World} {k : Nat} {cs : Array Value} {ty : TypeId} (h : w.heap[k]? = some (.cells cs ty (0, 0))) (i : Nat) : w.frozen? ⟨k, i, none⟩ = false := by
  simp [World.frozen?, h]

theorem PAt.set0 {w : World} {P : Nat} {ao : Option Addr} {n cap nn : Nat} (h : PAt w P ao n cap nn) (ao' : Option Addr) (n' cap' : Nat) : PAt (w.setCell ⟨P, 0, none⟩ (.slice ao' n' cap')) P ao' n' cap' nn := by
  unfold PAt at h ⊢
  simp only [World.setCell, Array.getElem?_modify, h]
  rfl
theorem PAt.set1 {w : World} {P : Nat} {ao : Option Addr} {n cap nn : Nat} (h : PAt w P ao n cap nn) (m : Nat) : PAt (w.setCell ⟨P, 1, none⟩ (.int .i64 (m : Int))) P ao n cap m := by
  unfold PAt at h ⊢
  simp only [World.setCell, Array.getElem?_modify, h]
  rfl
theorem PAt.below {w w' : World} {P B : Nat} {ao : Option Addr} {n cap nn : Nat} (h : PAt w P ao n cap nn) (hb : Below B w w') (hP : P < B) : PAt w' P ao n cap nn := (hb.block P hP).trans h

theorem TokAt.below {w w' : World} {P : Nat} {t : TokD} {ba : Option Addr} {bn bc : Nat} {ca : Option Addr} {cn cc : Nat} (h : TokAt w P t ba bn bc ca cn cc) (hb : Below P w w') : TokAt w' P t ba bn bc ca cn cc :=
  ⟨h.1.below hb, h.2.1.below hb, h.2.2⟩

/-- What Add packs for a piece of one token. -/
def encPiece (t : TokD) : List UInt8 := Lib.uvarint 4 ++ encTok t

set_option maxHeartbeats 4000000 in
set_option maxRecDepth 100000 in
theorem add_one (P n : Nat) (t : TokD) (b off tc : Nat) (ba : Option Addr) (bn bc : Nat) (ca : Option Addr) (cn cc : Nat) (ao : Option Addr) (cap nn : Nat) (xs : List Value) (w : World)
    (hP : PAt w P ao n cap nn) (hown : w.ownsRow (P + 1) 5 1 (.slice ao n cap) n xs) (hb : b < P) (hlim : n + (encTok t).length + 30000000 ≤ 140737488355328) (hnn : nn ≤ 1048576)
    (hTC : TokCells w b off t ba bn bc ca cn cc) (hT : TokAt w P t ba bn bc ca cn cc) :
    Calls Try.prog 24 #[.pointer (some ⟨P, 0, none⟩), .agg #[.string ByteArray.empty, .string t.tok, .slice (some ⟨b, off, none⟩) 1 tc]] w fun e w' => e = .returned (.tuple #[]) ∧
      ∃ ao' cap', PAt w' P ao' (n + (encPiece t).length) cap' (nn + 1) ∧ w'.ownsRow (P + 1) 5 1 (.slice ao' (n + (encPiece t).length) cap') (n + (encPiece t).length) (xs ++ Lib.byteCells (encPiece t)) ∧ Fr P (some P) w w' := by
  have hPs : P < w.heap.size := (Array.getElem?_eq_some_iff.1 hP).1
  have hts : t.tok.size ≤ 1048576 := hT.1.2.1
  have HP := hid hP
  have Hown := hid hown
  have HTC := hid hTC
  have HT := hid hT
  clear hP hown hTC hT
  go_enter Try.func24, Try.ntmps24
  go_wp2_with fail
  obtain ⟨W1, hW1⟩ : ∃ W1, W1 = w.alloc (.cells #[.string ByteArray.empty, .string t.tok, .slice (some ⟨b, off, none⟩) 1 tc] 46) := ⟨_, rfl⟩
  have hfr1 : Fr (P + 1) none w W1 := by rw [hW1]; exact (Fr.refl _ _ w).alloc (by omega) _
  have hbx1 : W1.heap[w.heap.size]? = some (.cells #[.string ByteArray.empty, .string t.tok, .slice (some ⟨b, off, none⟩) 1 tc] 46) := by rw [hW1]; exact box_new w _
  have hown1 : W1.ownsRow (P + 1) 5 1 (.slice ao n cap) n xs := by rw [hW1]; exact Hown.out.alloc _
  have hs1 : w.heap.size + 1 ≤ W1.heap.size := by rw [hW1]; simp
  rw [← hW1]
  clear hW1
  have HTC1 := hid (HTC.out.below hfr1.1 (show b < P + 1 by omega))
  refine (form_one b off tc t ba bn bc ca cn cc W1 HTC1.out (by omega) hts).mono ?_
  rintro e w2 ⟨rfl, hfr2⟩
  have hbx2 := hfr2.box hbx1 (by simp) (by decide)
  have hown2 := owns_below hown1 hfr2.1
  have hP2 := (HP.out.below hfr1.1 (by omega)).below hfr2.1 (by omega)
  have hfr2' : Fr (P + 1) none w w2 := hfr1.trans (hfr2.mono (by omega))
  have hs2 := hfr2.1.size
  have hc22 := box_cell hbx2 2
  have hp20 := box_cell hP2 0
  have hf20 := box_free hP2 0
  simp only [List.getElem?_toArray, List.getElem?_cons_succ, List.getElem?_cons_zero] at hc22 hp20
  have HB2 := hid hbx2
  have HP2 := hid hP2
  clear hbx2 hP2 hbx1 hown1 hfr1 hfr2
  go_wp2_with fail
  have hlu : (Lib.uvarint 4).length = 1 := by rw [Lib.uvarint_small (by omega)]; rfl
  have HLU := hid hlu
  have hU := hid (uvarint_any (P + 1) n 4 (by omega) ao cap xs w2.drew hown2.drew (by simp; omega) (by omega))
  clear hlu hown2
  have HK := hid (fun (w3 : World) (hf : Fr (P + 1) none w2.drew w3) => (show PAt w3 P ao n cap nn from HP2.out.below (w := w2.drew) hf.1 (by omega)))
  go_cut [] (fun wx => ∃ ao4 cap4, PAt wx P ao4 (n + (Lib.uvarint 4).length) cap4 nn ∧ wx.ownsRow (P + 1) 5 1 (.slice ao4 (n + (Lib.uvarint 4).length) cap4) (n + (Lib.uvarint 4).length) (xs ++ Lib.byteCells (Lib.uvarint 4)) ∧ Fr P (some P) w2 wx)
  case first =>
    go_region_with (go_at_call 36; refine hU.out.mono ?_; rintro e w3 ⟨ao3, cap3, rfl, hown3, hfr3⟩; have hK := HK.out w3 hfr3; have hq1 := box_cell hK 0; have hq2 := box_free hK 0; simp only [List.getElem?_toArray, List.getElem?_cons_zero] at hq1; have HQ := hid hK; clear hK)
    all_goals
      have hfr3' : Fr (P + 1) none w2 w3 := ⟨⟨hfr3.1.os, hfr3.1.tape, hfr3.1.output, hfr3.1.size, hfr3.1.block⟩, hfr3.2⟩
      go_wp2_with fail
      go_meet
      exact ⟨ao3, cap3, HQ.out.set0 ao3 _ cap3, ownsRow_setCell_below hown3 (Nat.lt_succ_self P) _, ((hfr3'.mono (Nat.le_succ P)).any).setOwn rfl (Nat.le_refl P) _⟩
  case rest =>
    obtain ⟨ao4, cap4, hP4, hown4, hfr4⟩ := hcut
    rw [HLU.out] at hP4 hown4
    have hfr4' : Fr P (some P) w wc := ((hfr2'.mono (Nat.le_succ P)).any).trans hfr4
    have hbx4 := hfr4.box HB2.out (by simp; omega) (by decide)
    have hc42 := box_cell hbx4 2
    simp only [List.getElem?_toArray, List.getElem?_cons_succ, List.getElem?_cons_zero] at hc42
    have hs4 := hfr4.1.size
    have HP4 := hid hP4
    clear hbx4 hP4 hfr4 hfr2' hp20 hf20 hU HK hc22
    obtain ⟨g0, g1, g2, g3⟩ := HTC.out.below hfr4'.1 hb
    have hT4 := HT.out
    go_wp2_with fail
    refine wp_loop_rounds 2 ?_
    rw [rounds_succ]
    have hbw : b < wc.heap.size := by omega
    have hp40 := box_cell HP4.out 0
    simp only [List.getElem?_toArray, List.getElem?_cons_zero] at hp40
    have hPw : P < wc.heap.size := by omega
    go_wp2_with fail
    have hfr5 : Fr P (some P) w (wc.alloc (.cells #[.string t.tok, .float .f64 t.bits, .slice ba bn bc, .slice ca cn cc] 31)) := hfr4'.alloc (by omega) _
    have hU := hid (tok_any (P + 1) (n + 1) P t ba bn bc ca cn cc ao4 cap4 _ (wc.alloc (.cells #[.string t.tok, .float .f64 t.bits, .slice ba bn bc, .slice ca cn cc] 31)).drew (hown4.alloc _).drew (by simp; omega) (Nat.le_succ P) (by omega) (HT.out.below hfr5.1.drew))
    have HK := hid (fun (w3 : World) (hf : Fr (P + 1) none (wc.alloc (.cells #[.string t.tok, .float .f64 t.bits, .slice ba bn bc, .slice ca cn cc] 31)).drew w3) => (show PAt w3 P ao4 (n + 1) cap4 nn from (HP4.out.below ((Below.refl (P + 1) wc).alloc (by omega) _).drew (by omega)).below hf.1 (by omega)))
    have hfrD : Fr P (some P) w (wc.alloc (.cells #[.string t.tok, .float .f64 t.bits, .slice ba bn bc, .slice ca cn cc] 31)).drew := hfr5.drew
    clear hown4 hfr5 hT4
    go_region_with (go_at_call 37; refine hU.out.mono ?_; rintro e w6 ⟨ao6, cap6, rfl, hown6, hfr6⟩; have hK := HK.out w6 hfr6; have hq1 := box_cell hK 0; have hq2 := box_free hK 0; simp only [List.getElem?_toArray, List.getElem?_cons_zero] at hq1; have HQ := hid hK; clear hK)
    all_goals
      have hs6 := hfr6.1.size
      have hfr7 : Fr P (some P) w w6 := hfrD.trans (hfr6.mono (Nat.le_succ P)).any
      have hP7 := HQ.out.set0 ao6 (n + 1 + (encTok t).length) cap6
      have hown7 := ownsRow_setCell_below hown6 (a := ⟨P, 0, none⟩) (Nat.lt_succ_self P) (.slice ao6 (n + 1 + (encTok t).length) cap6)
      have hfr8 := hfr7.setOwn (p := ⟨P, 0, none⟩) rfl (Nat.le_refl P) (.slice ao6 (n + 1 + (encTok t).length) cap6)
      go_wp2_with fail
      have hs8 : w6.heap.size ≤ (w6.setCell ⟨P, 0, none⟩ (.slice ao6 (n + 1 + (encTok t).length) cap6)).heap.size := by simp [World.setCell]
      obtain ⟨W8, hW8⟩ : ∃ W8, W8 = w6.setCell ⟨P, 0, none⟩ (.slice ao6 (n + 1 + (encTok t).length) cap6) := ⟨_, rfl⟩
      rw [← hW8] at hP7 hown7 hfr8 hs8 ⊢
      clear hW8
      have hp81 := box_cell hP7 1
      have hf81 := box_free hP7 1
      simp only [List.getElem?_toArray, List.getElem?_cons_succ, List.getElem?_cons_zero] at hp81
      have HP7 := hid hP7
      clear hP7 hq1 hq2 hown6 hfr6
      rw [rounds_succ]
      go_wp2_with fail
      go_end0
      have el : n + (encPiece t).length = n + 1 + (encTok t).length := by rw [encPiece, List.length_append, HLU.out]; omega
      refine ⟨rfl, ao6, cap6, ?_, ?_, hfr8.setOwn rfl (Nat.le_refl P) _⟩
      · rw [el]
        exact HP7.out.set1 (nn + 1)
      · rw [el, encPiece, Lib.byteCells_append, ← List.append_assoc]
        exact ownsRow_setCell_below hown7 (Nat.lt_succ_self P) _

end Go.Proofs.Qxb6618748a
