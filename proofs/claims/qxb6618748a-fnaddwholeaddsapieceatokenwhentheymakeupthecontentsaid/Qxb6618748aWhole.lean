/-
  Seat b6618748a: madeUp, SplitTokens, AddWhole on this law's road.
-/
import Derived.Test.Qxb6618748aAddText
namespace Go.Proofs.Qxb6618748a
open Go.RowKit
set_option linter.unusedVariables false
attribute [local go_sem] call47 run_store_float

theorem madeUp_empty (a : Option Addr) (m c : Nat) (w : World) :
    Calls Try.prog 38 #[.string ByteArray.empty, .slice a m c] w fun e w' => e = .returned (.tuple #[.int .i64 0, .bool true]) ∧ w = w' := by
  go_enter Try.func38, Try.ntmps38
  go_wp2_with fail
  refine wp_loop_rounds 1 ?_
  rw [rounds_succ]
  go_wp2_with fail
  go_ret2
  exact ⟨rfl, rfl⟩

set_option maxHeartbeats 1000000 in
theorem addText_none (s : ByteArray) (hs : s.toList.isEmpty = true) (P : Nat) (a : Option Addr) (c : Nat) (x : Bool) (w : World) :
    Calls Try.prog 31 #[.pointer (some ⟨P, 0, none⟩), .string s, .slice a 0 c, .bool x] w fun e w' => e = .returned (.tuple #[]) ∧ Fr w.heap.size none w w' := by
  go_enter Try.func31, Try.ntmps31
  go_wp2_with fail
  refine wp_loop_rounds 1 ?_
  rw [rounds_succ]
  go_wp2_with fail
  go_end0
  exact ⟨rfl, (Fr.refl _ _ _).alloc (Nat.le_refl _) _⟩

set_option maxHeartbeats 1000000 in
theorem split_none (s : ByteArray) (hs : s.toList.isEmpty = true) (a : Option Addr) (w : World) :
    Calls Try.prog 30 #[.string ByteArray.empty, .string s, .slice a 0 0] w fun e w' => e = .returned (.tuple #[.slice a 0 0, .slice a 0 0]) ∧ Fr w.heap.size none w w' := by
  go_enter Try.func30, Try.ntmps30
  go_wp2_with fail
  refine (madeUp_empty _ _ _ _).mono ?_
  rintro e w' ⟨rfl, rfl⟩
  go_wp2_with fail
  go_quiet (fail)
  go_wp2_with fail
  go_ret2
  exact ⟨rfl, fr_drewN _ _ _ _⟩

set_option maxHeartbeats 1000000 in
theorem split_empty (s : ByteArray) (hs : s.toList.isEmpty = true) (O N : Nat) (hN : 0 < N) (hN2 : N ≤ 1048576) (w : World) :
    Calls Try.prog 30 #[.string ByteArray.empty, .string s, .slice (some ⟨O, 0, none⟩) N N] w fun e w' => e = .returned (.tuple #[.slice (some ⟨O, 0, none⟩) 0 N, .slice (some ⟨O, 0, none⟩) N N]) ∧ Fr w.heap.size none w w' := by
  have hNn : ¬ N = 0 := by omega
  go_enter Try.func30, Try.ntmps30
  go_wp2_with fail
  refine (madeUp_empty _ _ _ _).mono ?_
  rintro e w' ⟨rfl, rfl⟩
  go_wp2_with fail
  go_quiet (fail)
  go_wp2_with fail
  go_ret2
  exact ⟨rfl, fr_drewN _ _ _ _⟩

set_option maxHeartbeats 1000000 in
theorem split_some (s p : ByteArray) (r : List UInt8) (h : s.data.toList = p.data.toList ++ r) (hm : s.size ≤ 1048576) (hs : s.toList.isEmpty = false) (O N : Nat) (hN : 0 < N) (hN2 : N ≤ 1048576) (w : World) (hc0 : w.cell? ⟨O, 0, none⟩ = some (.string p)) :
    Calls Try.prog 30 #[.string ByteArray.empty, .string s, .slice (some ⟨O, 0, none⟩) N N] w fun e w' => e = .returned (.tuple #[.slice (some ⟨O, 0, none⟩) 0 N, .slice (some ⟨O, 0, none⟩) N N]) ∧ Fr w.heap.size none w w' := by
  have hNn : ¬ N = 0 := by omega
  have hNi : (0 : Int) < (N : Int) := by omega
  have HH := hid h
  clear h
  go_enter Try.func30, Try.ntmps30
  go_wp2_with fail
  refine (madeUp_empty _ _ _ _).mono ?_
  rintro e w' ⟨rfl, rfl⟩
  go_wp2_with fail
  refine (next_any s p r O 0 N N w HH.out hm (by omega) hc0).mono ?_
  rintro e w1 ⟨rfl, hfr1⟩
  go_wp2_with fail
  go_quiet (fail)
  go_wp2_with fail
  go_ret2
  exact ⟨rfl, hfr1.trans (fr_drewN _ _ _ _)⟩

set_option maxHeartbeats 2000000 in
theorem whole_none (s : ByteArray) (hs : s.toList.isEmpty = true) (P : Nat) (a : Option Addr) (w : World) :
    Calls Try.prog 14 #[.pointer (some ⟨P, 0, none⟩), .agg #[.string ByteArray.empty, .string s, .slice a 0 0]] w fun e w' => e = .returned (.tuple #[]) ∧ Fr w.heap.size none w w' := by
  have he : ByteArray.empty.toList.isEmpty = true := by rw [ByteArray.toList_eq]; rfl
  go_enter Try.func14, Try.ntmps14
  go_wp2_with fail
  refine (split_none s hs a _).mono ?_
  rintro e w1 ⟨rfl, hfr1⟩
  have hbx1 := hfr1.box (box_new w _) (by simp) (by decide)
  have hc10 := box_cell hbx1 0
  simp only [List.getElem?_toArray, List.getElem?_cons_zero] at hc10
  have HB1 := hid hbx1
  have hs1 := hfr1.1.size
  simp only [World.size_alloc] at hs1
  clear hbx1
  go_wp2_with fail
  refine (addText_none ByteArray.empty he P a 0 true _).mono ?_
  rintro e w2 ⟨rfl, hfr2⟩
  have hbx2 := hfr2.box HB1.out (by simp) (by decide)
  have hc21 := box_cell hbx2 1
  simp only [List.getElem?_toArray, List.getElem?_cons_succ, List.getElem?_cons_zero] at hc21
  clear hbx2
  go_wp2_with fail
  refine (addText_none s hs P a 0 false _).mono ?_
  rintro e w3 ⟨rfl, hfr3⟩
  have hs2 := hfr2.1.size
  go_wp2_with fail
  go_end0
  refine ⟨rfl, ?_⟩
  exact (((Fr.refl w.heap.size none w).alloc (Nat.le_refl _) _).trans (hfr1.mono (by simp))).trans ((hfr2.mono (by omega)).trans (hfr3.mono (by omega)))

set_option maxHeartbeats 2000000 in
theorem whole_some (P O : Nat) (ts : List TokD) (s : ByteArray) (w : World)
    (hP : PAt w P none 0 0 0) (hs : s.size ≤ 1048576) (hlen : ts.length ≤ 1048576) (hlim : (encAll ts).length + 40000000 ≤ 140737488355328)
    (hT : ToksIn w O P ts) (hj : s.data.toList = joinT ts) (h0 : 0 < ts.length) :
    Calls Try.prog 14 #[.pointer (some ⟨P, 0, none⟩), .agg #[.string ByteArray.empty, .string s, .slice (some ⟨O, 0, none⟩) ts.length ts.length]] w fun e w' => e = .returned (.tuple #[]) ∧
      ∃ ao' cap', PAt w' P ao' (encAll ts).length cap' ts.length ∧ w'.ownsRow (P + 1) 5 1 (.slice ao' (encAll ts).length cap') (encAll ts).length (Lib.byteCells (encAll ts)) ∧ Fr P (some P) w w' := by
  have hPs : P < w.heap.size := (Array.getElem?_eq_some_iff.1 hP).1
  have he : ByteArray.empty.toList.isEmpty = true := by rw [ByteArray.toList_eq]; rfl
  have HP := hid hP
  have HT := hid hT
  have HJ := hid hj
  clear hP hT hj
  obtain ⟨t, ht⟩ : ∃ t, ts[0]? = some t := ⟨ts[0], List.getElem?_eq_getElem h0⟩
  have HTj := hid (HJ.out.trans (joinT_drop ts 0 t ht))
  have HT0 := hid ht
  clear ht
  have HS := hid (fun (W : World) (hf : Below P w W) => (show Calls Try.prog 30 #[.string ByteArray.empty, .string s, .slice (some ⟨O, 0, none⟩) ts.length ts.length] W (fun e w' => e = .returned (.tuple #[.slice (some ⟨O, 0, none⟩) 0 ts.length, .slice (some ⟨O, 0, none⟩) ts.length ts.length]) ∧ Fr W.heap.size none W w') from by
    obtain ⟨hO, ba, bn, bc, ca, cn, cc, hTC, hTA⟩ := HT.out.below hf 0 t HT0.out
    cases hse : s.toList.isEmpty with
    | true => exact split_empty s hse O ts.length h0 hlen W
    | false => exact split_some s t.tok _ HTj.out hs hse O ts.length h0 hlen W (by simpa using hTC.1)))
  go_enter Try.func14, Try.ntmps14
  go_wp2_with fail
  refine (HS.out _ ((Below.refl P w).alloc (by omega) _)).mono ?_
  rintro e w1 ⟨rfl, hfr1⟩
  have hbx1 := hfr1.box (box_new w _) (by simp) (by decide)
  have hc10 := box_cell hbx1 0
  simp only [List.getElem?_toArray, List.getElem?_cons_zero] at hc10
  have HB1 := hid hbx1
  have hs1 := hfr1.1.size
  simp only [World.size_alloc] at hs1
  have hfr1' : Fr w.heap.size none w w1 := ((Fr.refl w.heap.size none w).alloc (Nat.le_refl _) _).trans (hfr1.mono (by simp))
  clear hbx1 HS
  go_wp2_with fail
  refine (addText_none ByteArray.empty he P (some ⟨O, 0, none⟩) ts.length true _).mono ?_
  rintro e w2 ⟨rfl, hfr2⟩
  have hbx2 := hfr2.box HB1.out (by simp) (by decide)
  have hc21 := box_cell hbx2 1
  simp only [List.getElem?_toArray, List.getElem?_cons_succ, List.getElem?_cons_zero] at hc21
  have hfr2' : Fr w.heap.size none w w2 := hfr1'.trans (hfr2.mono (by omega))
  clear hbx2
  go_wp2_with fail
  refine (addText_any P O ts s none 0 w2 (HP.out.below hfr2'.1 hPs) (World.ownsRow_nil _ _ _ _) hs hlen hlim (HT.out.below (hfr2'.1.mono (by omega))) HJ.out h0).mono ?_
  rintro e w3 ⟨rfl, ao3, cap3, hP3, hown3, hfr3⟩
  go_wp2_with fail
  go_end0
  exact ⟨rfl, ao3, cap3, hP3, hown3, ((hfr2'.mono (by omega)).any).trans hfr3⟩

end Go.Proofs.Qxb6618748a
