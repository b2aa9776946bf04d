/-
  Seat b6618755aD: FnNewHonoursDeclaredSet.
-/
import Derived.Test.Qxb6618755aDoorIdem
import Derived.Test.Qxb6618755aDoorLeast
namespace Go.Proofs.Qxb6618755aDoor
open Go.RowKit
set_option linter.unusedVariables false

theorem used_any (w : World) (L : Lay) (q : w.cell? ⟨L.fb, 4, none⟩ = some (.map (some L.bu))) :
    Calls Tryd.prog 14 #[.pointer (some ⟨L.fb, 0, none⟩)] w fun e w' => e = .returned (.map (some L.bu)) ∧ w = w' := by
  go_enter Tryd.func14, Tryd.ntmps14
  go_wp2
  go_ret
  exact ⟨rfl, rfl⟩

theorem imports_any (w : World) (L : Lay) (q : w.cell? ⟨L.fb, 3, none⟩ = some (.map (some L.bi))) :
    Calls Tryd.prog 18 #[.pointer (some ⟨L.fb, 0, none⟩)] w fun e w' => e = .returned (.map (some L.bi)) ∧ w = w' := by
  go_enter Tryd.func18, Tryd.ntmps18
  go_wp2
  go_ret
  exact ⟨rfl, rfl⟩

set_option maxHeartbeats 16000000 in
set_option maxRecDepth 100000 in
theorem law3 (a1 a2 : Option Addr) (n1 c1 n2 c2 : Nat) (D xs : List ByteArray) (w : World) (h1 : StrsAt w w.heap.size a1 n1 D) (h2 : StrsAt w w.heap.size a2 n2 xs) (htab : Tab w.heap.size w) :
    Calls Tryd.prog 3 #[.slice a1 n1 c1, .slice a2 n2 c2] w fun e w' => e = .returned (.bool true) ∧ Below w.heap.size w w' := by
  have H1 := hid h1
  have H2 := hid h2
  have HT := hid htab
  have hn1 := h1.2.1
  have hn2 := h2.2.1
  clear h1 h2 htab
  go_enter Tryd.func3, Tryd.ntmps3
  go_wp2_with fail
  refine (zz8 a1 a2 n1 c1 n2 c2 w.heap.size D xs w H1.out H2.out).mono ?_
  rintro e w0 ⟨⟨x, rfl, hx⟩, rfl⟩
  cases x with
  | false =>
    go_wp2_with fail
    go_ret
    exact ⟨rfl, Below.refl _ _⟩
  | true =>
  have HX := hid (hx rfl)
  clear hx
  by_cases d1 : n1 ≤ 4096
  case neg => go_wp2_with fail; go_ret; exact ⟨rfl, Below.refl _ _⟩
  by_cases d2 : n2 ≤ 1024
  case neg => go_wp2_with fail; go_ret; exact ⟨rfl, Below.refl _ _⟩
  go_wp2_with fail
  refine (tooBig a1 a2 n1 c1 n2 c2 w.heap.size D xs 0 w H1.out H2.out HX.out.1 HX.out.2 (by omega)).mono ?_
  rintro e w0 ⟨⟨x, rfl, _⟩, rfl⟩
  cases x with
  | true =>
    go_wp2_with fail
    go_ret
    exact ⟨rfl, Below.refl _ _⟩
  | false =>
  go_wp2_with fail
  refine (set_any a1 n1 c1 w.heap.size D w H1.out HX.out.1 (by omega) (Nat.le_refl _)).mono ?_
  rintro e w1 ⟨bd, rfl, hS1, hT1, hbd⟩
  have hsl : (toSet D).length ≤ 4096 := Nat.le_trans (toSet_len D) (by rw [H1.out.1]; exact d1)
  obtain ⟨S, eS⟩ : ∃ S, S = toSet D := ⟨_, rfl⟩
  rw [← eS] at hS1 hsl
  clear eS
  have HS1 := hid hS1
  clear hS1
  go_wp2_with fail
  refine (newFile_any w1 w.heap.size bd S (HT.out.on hT1.toBelow) hT1.size hbd HS1.out).mono ?_
  rintro e w2 ⟨L, rfl, hLd, hF2, hT2, hbi, hbu⟩
  subst hLd
  have HF2 := hid hF2
  have T2 := hT1.trans hT2
  have hB2 : w.heap.size ≤ w2.heap.size := T2.size
  clear hF2 hT1 hT2
  go_wp2_with fail
  go_loopw [7] (fun vi wr => ∃ k : Nat, k ≤ n2 ∧ vi = .int .i64 k ∧ Turn [] w2 wr) (fun vi _ => n2 - (intOf vi).toNat)
  case atStart => exact ⟨0, Nat.zero_le _, rfl, Turn.refl _ _⟩
  case round =>
    obtain ⟨k, hk, rfl, hTr⟩ := hrel
    have hT1r := T2.trans hTr
    have hBr : w.heap.size ≤ wr.heap.size := hT1r.size
    have F := HF2.out.on hTr hB2
    by_cases hlt : k < n2
    · obtain ⟨b, off, rfl, hb, hcell⟩ := H2.out.2.2.2 k hlt
      have hkl : k < xs.length := by rw [H2.out.1]; exact hlt
      have hxs := HX.out.2 _ (getD_mem (xs := xs) (i := k) hkl)
      have hcell' := (hT1r.cell (p := ⟨b, off + k, none⟩) (by show b < _; omega) (by simp)).trans hcell
      obtain ⟨x, ex⟩ : ∃ x, x = xs.getD k ByteArray.empty := ⟨_, rfl⟩
      rw [← ex] at hcell' hxs
      clear ex hcell
      have hlo := local_any w.heap.size wr L S [] x F hBr (by omega) (by omega) (by simp)
      rw [show names [] = [] from rfl] at hlo
      have HLo := hid hlo
      have HF := hid F
      clear hlo F
      go_wp2_with fail
      refine HLo.out.mono ?_
      rintro e w5 ⟨rfl, hT5⟩
      have hB5 : w.heap.size ≤ w5.heap.size := Nat.le_trans hBr hT5.size
      have F5 := HF.out.on hT5 hBr
      have hxm : x.size ≤ maxLen := by unfold maxLen; omega
      have l1 := F5.decl.look (s := x) hxm
      have HLe := hid (least_any w5 L.bd (.map none) S [] x F5.decl (.inl ⟨rfl, rfl⟩) (by omega) (by omega) (by simp))
      have hiff := loc_eq_iff x (S ++ [])
      obtain ⟨r, er⟩ : ∃ r, r = loc x (S ++ []) := ⟨_, rfl⟩
      rw [← er] at HLe hiff ⊢
      rw [List.append_nil] at hiff
      clear er F5
      by_cases q : x ∈ S
      · rw [decide_eq_true q] at l1
        have hne : ¬ r.toList = x.toList := str_ne fun e => hiff.1 e q
        have hne2 : (r.toList == x.toList) = false := beq_eq_false_iff_ne.2 hne
        clear hiff q
        go_wp2_with fail
        refine HLe.out.mono ?_
        rintro e w6 ⟨rfl, hT6⟩
        go_wp2_with fail
        go_round
        case rel => exact ⟨k + 1, by omega, by go_num, hTr.trans (hT5.trans hT6)⟩
        case measure => simp [intOf]; omega
      · rw [decide_eq_false q] at l1
        obtain rfl : r = x := hiff.2 q
        clear hiff q
        go_wp2_with fail
        refine HLe.out.mono ?_
        rintro e w6 ⟨rfl, hT6⟩
        go_wp2_with fail
        go_round
        case rel => exact ⟨k + 1, by omega, by go_num, hTr.trans (hT5.trans hT6)⟩
        case measure => simp [intOf]; omega
    · have q4 := F.c4
      have n4 := F.used.len
      have HF := hid F
      clear F
      go_wp2_with fail
      refine (used_any wr L q4).mono ?_
      rintro e w5 ⟨rfl, rfl⟩
      go_wp2_with fail
      go_ret
      exact ⟨rfl, hT1r.toBelow⟩

end Go.Proofs.Qxb6618755aDoor
