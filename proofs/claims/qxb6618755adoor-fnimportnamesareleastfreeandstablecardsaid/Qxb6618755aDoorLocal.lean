/-
  Seat b6618755aD: Local and Import.
-/
import Derived.Test.Qxb6618755aDoorFile
namespace Go.Proofs.Qxb6618755aDoor
open Go.RowKit
set_option linter.unusedVariables false

theorem itoa_nat (B : Nat) (w : World) (j : Nat) (hj : j < 1000000) (htab : Tab B w) :
    Calls Tryd.prog 25 #[.int .i64 ((j : Int) + 1)] w fun e w' => e = .returned (.string (num (j + 1))) ∧ Turn [] w w' := by
  refine (itoa_any ((j : Int) + 1) (by omega) (by omega) w htab.here).mono ?_
  rintro e w' ⟨rfl, k, os, rfl⟩
  refine ⟨?_, Turn.of_below (Lib.below_grow _ _ (Nat.le_refl _) k os)⟩
  have : ((j : Int) + 1) = ((j + 1 : Nat) : Int) := by omega
  rw [this, Lib.itoa_nonneg]
  rfl

theorem taken_next {base x : ByteArray} {T : List ByteArray} {j : Nat} (h : ∀ i, i < j → nm base i ∈ T) (hx : x = nm base j) (hm : x ∈ T) : Hid (∀ i, i < j + 1 → nm base i ∈ T) := fun i hi => by
  by_cases e : i = j
  · rw [e, ← hx]; exact hm
  · exact h i (by omega)

theorem nm_next (base : ByteArray) (j : Nat) : base ++ num (j + 1) = nm base (j + 1) := (nm_pos base (by omega)).symm

set_option maxHeartbeats 8000000 in
set_option maxRecDepth 100000 in
theorem local_any (B : Nat) (w : World) (L : Lay) (S : List ByteArray) (I : List (ByteArray × ByteArray)) (base : ByteArray) (hF : FileAt B w L S I) (hB : B ≤ w.heap.size) (hb : base.size ≤ 2000000) (hS : S.length ≤ 10000) (hI : I.length ≤ 10000) :
    Calls Tryd.prog 12 #[.pointer (some ⟨L.fb, 0, none⟩), .string base] w fun e w' => e = .returned (.string (loc base (S ++ names I))) ∧ Turn [] w w' := by
  have hT : (S ++ names I).length ≤ 20000 := by rw [List.length_append]; simp [names]; omega
  obtain ⟨T, eT⟩ : ∃ T, T = S ++ names I := ⟨_, rfl⟩
  rw [← eT] at hT ⊢
  have HT := hid hT
  have HE := hid eT
  have HF := hid hF
  clear hT eT hF
  go_enter Tryd.func12, Tryd.ntmps12
  go_wp2
  go_loopw [5, 6] (fun vn vi wr => ∃ j : Nat, vn = .string (nm base j) ∧ vi = .int .i64 ((j : Int) + 1) ∧ Hid (∀ i, i < j → nm base i ∈ T) ∧ Turn [] w wr) (fun _ vi _ => 20002 - (intOf vi).toNat)
  case atStart => exact ⟨0, by rw [nm_zero], rfl, (fun i hi => by omega), Turn.refl _ _⟩
  case round =>
    obtain ⟨j, rfl, rfl, HA, hW⟩ := hrel
    have hj : j ≤ 20000 := Nat.le_trans (names_le base T j HA.out) HT.out
    have F := HF.out.on hW hB
    have q1 := F.c1
    have q4 := F.c4
    have htab := F.tab
    have hsz := nm_size base j (by omega)
    have lk := F.used.look (s := nm base j) (by unfold maxLen; omega)
    have hD := decl_any wr L.cb L.bd S (nm base j) F.cc F.decl (by omega)
    have hnx := nm_next base j
    have hns : (num (j + 1)).size ≤ 9 := by rw [num_size]; exact dec_len 8 (j + 1) (by omega)
    obtain ⟨x, ex⟩ : ∃ x, x = nm base j := ⟨_, rfl⟩
    rw [← ex] at lk hD hsz ⊢
    have HX := hid ex
    have HN := hid hnx
    clear ex F hnx
    unfold declV at q1
    by_cases m1 : x ∈ S
    · have b1 : decide (x ∈ S) = true := decide_eq_true m1
      have HM := hid m1
      rw [b1] at hD
      clear b1 m1
      go_wp2_with (first | (go_at_call 24; refine hD.mono ?_; rintro e w' ⟨rfl, rfl⟩) | (go_at_call 25; refine (itoa_nat B _ j (by omega) htab).mono ?_; rintro e w' ⟨rfl, hw⟩))
      go_round
      case rel => exact ⟨j + 1, by rw [HN.out], by go_num, taken_next HA.out HX.out (by rw [HE.out]; exact List.mem_append_left _ HM.out), hW.trans hw⟩
      case measure => simp [intOf]; omega
    · have b1 : decide (x ∈ S) = false := decide_eq_false m1
      have HM := hid m1
      rw [b1] at hD
      clear b1 m1
      by_cases m2 : x ∈ names I
      · have b2 : decide (x ∈ names I) = true := decide_eq_true m2
        have HM2 := hid m2
        rw [b2] at lk
        clear b2 m2
        go_wp2_with (first | (go_at_call 24; refine hD.mono ?_; rintro e w' ⟨rfl, rfl⟩) | (go_at_call 25; refine (itoa_nat B _ j (by omega) htab).mono ?_; rintro e w' ⟨rfl, hw⟩))
        go_round
        case rel => exact ⟨j + 1, by rw [HN.out], by go_num, taken_next HA.out HX.out (by rw [HE.out]; exact List.mem_append_right _ HM2.out), hW.trans hw⟩
        case measure => simp [intOf]; omega
      · have b2 : decide (x ∈ names I) = false := decide_eq_false m2
        have HM2 := hid m2
        rw [b2] at lk
        clear b2 m2
        have hfin : x = loc base T := by
          rw [HX.out]
          refine Least.is ⟨?_, HA.out⟩
          rw [← HX.out, HE.out, List.mem_append]
          exact fun h => h.elim HM.out HM2.out
        have HF2 := hid hfin
        clear hfin
        go_wp2_with (first | (go_at_call 24; refine hD.mono ?_; rintro e w' ⟨rfl, rfl⟩) | (go_at_call 25; refine (itoa_nat B _ j (by omega) htab).mono ?_; rintro e w' ⟨rfl, hw⟩))
        go_ret
        exact ⟨by show Ending.returned (Value.string x) = _; rw [HF2.out], hW⟩

end Go.Proofs.Qxb6618755aDoor
