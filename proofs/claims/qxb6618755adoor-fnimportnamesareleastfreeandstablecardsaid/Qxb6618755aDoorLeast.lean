/-
  Seat b6618755aD: gfb1LeastFree.
-/
import Derived.Test.Qxb6618755aDoorItoa
import Derived.Deep.QuietTactic
import Derived.BigQuiet
namespace Go.Proofs.Qxb6618755aDoor
open Go.RowKit
set_option linter.unusedVariables false

/-- The value v is a set of names: a nil map, or a map of the call's own. -/
def TakenAt (w : World) (v : Value) (U : List ByteArray) : Prop := (v = .map none ∧ U = []) ∨ ∃ b, v = .map (some b) ∧ SetAt w b U

theorem TakenAt.on {w w' : World} {v : Value} {U : List ByteArray} (h : TakenAt w v U) (ht : Turn [] w w') : TakenAt w' v U := by
  rcases h with h | ⟨b, h1, h2⟩
  · exact .inl h
  · exact .inr ⟨b, h1, h2.block (ht.block _ h2.lt (by simp))⟩
theorem TakenAt.look {w : World} {v : Value} {U : List ByteArray} (h : TakenAt w v U) {s : ByteArray} (hs : s.size ≤ maxLen) : (Instr.lookup 25 v (.string s) false).run Tryd.prog w = .ok (.bool (decide (s ∈ U))) w := by
  rcases h with ⟨rfl, rfl⟩ | ⟨b, rfl, h2⟩
  · rw [look_nil25 w hs]; simp
  · exact h2.look hs
theorem TakenAt.len {w : World} {v : Value} {U : List ByteArray} (h : TakenAt w v U) (ty : TypeId) : (Builtin.len_ #[25] ty #[v]).run Tryd.prog w = .ok (.int .i64 U.length) w := by
  rcases h with ⟨rfl, rfl⟩ | ⟨b, rfl, h2⟩
  · exact Maps.len_nil Tryd.underlying25 ty
  · exact h2.len ty

theorem extract_pre (a b : ByteArray) : (a ++ b).extract 0 a.size = a := by
  apply bytes_eq
  rw [Lib.Pa.extract_upto_list, bytes_toList_append, Lib.size_eq, List.take_left]
theorem extract_post (a b : ByteArray) : (a ++ b).extract a.size (a ++ b).size = b := by
  apply bytes_eq
  rw [Lib.Pa.extract_drop _ _ _ rfl, bytes_toList_append, Lib.size_eq, List.drop_left]

theorem Turn.drewN {X : List Nat} {a w : World} (h : Turn X a w) (n : Nat) : Turn X a (w.drewN n) := ⟨h.os, h.tape, h.output, h.size, h.block⟩
theorem SetAt.drewN {w : World} {b : Nat} {S : List ByteArray} (h : SetAt w b S) (n : Nat) : SetAt (w.drewN n) b S := h.block rfl

set_option maxHeartbeats 8000000 in
set_option maxRecDepth 100000 in
theorem least_any (w : World) (bd : Nat) (v : Value) (S U : List ByteArray) (base : ByteArray) (hS : SetAt w bd S) (hU : TakenAt w v U) (hb : base.size ≤ 2000000) (hSl : S.length ≤ 5000) (hUl : U.length ≤ 5000) :
    Calls Tryd.prog 13 #[.string (loc base (S ++ U)), .string base, .map (some bd), v] w fun e w' => e = .returned (.bool true) ∧ Turn [] w w' := by
  obtain ⟨hfree, htk⟩ := leastK_spec base (S ++ U)
  have hkle := (leastK_spec base (S ++ U)).le
  unfold loc
  obtain ⟨k, ek⟩ : ∃ k, k = leastK base (S ++ U) := ⟨_, rfl⟩
  rw [← ek] at hfree htk hkle ⊢
  clear ek
  rw [List.length_append] at hkle
  rw [List.mem_append] at hfree
  have f1 : decide (nm base k ∈ S) = false := decide_eq_false fun h => hfree (.inl h)
  have f2 : decide (nm base k ∈ U) = false := decide_eq_false fun h => hfree (.inr h)
  have hsz := nm_size base k (by omega)
  have hbm : base.size ≤ maxLen := by unfold maxLen; omega
  have hrm : (nm base k).size ≤ maxLen := by unfold maxLen; omega
  have l1 := hS.look (s := nm base k) hrm
  have l2 := hU.look (s := nm base k) hrm
  rw [f1] at l1
  rw [f2] at l2
  have l3 := hS.look (s := base) hbm
  have l4 := hU.look (s := base) hbm
  have HS := hid hS
  have HU := hid hU
  have HT := hid htk
  clear f1 f2 hfree hS hU htk
  by_cases hk0 : k = 0
  · subst hk0
    rw [nm_zero] at l1 l2 ⊢
    clear l3 l4
    go_enter Tryd.func13, Tryd.ntmps13
    go_wp2
    go_ret
    exact ⟨rfl, Turn.refl _ _⟩
  · have hbase : base ∈ S ++ U := by
      have := HT.out 0 (by omega)
      rwa [nm_zero] at this
    rw [List.mem_append] at hbase
    have hne : ¬ (nm base k).toList = base.toList := by
      rw [Lib.toList_data, Lib.toList_data]
      intro e
      have h1 : nm base k = nm base 0 := (bytes_eq e).trans (nm_zero base).symm
      exact hk0 (nm_inj base h1)
    have hne2 : ((nm base k).toList == base.toList) = false := beq_eq_false_iff_ne.2 hne
    have hpre : (nm base k).extract 0 base.size = base := by rw [nm_pos base hk0]; exact extract_pre _ _
    have hpost : (nm base k).extract base.size (nm base k).size = num k := by rw [nm_pos base hk0]; exact extract_post _ _
    have hgt : base.size < (nm base k).size := by
      rw [nm_pos base hk0, ByteArray.size_append, num_size]
      have := dec_pos k
      omega
    have HD : Hid (∀ w : World, Calls Tryd.prog 26 #[.string (num k), .int .i64 ((S.length : Int) + (U.length : Int))] w fun e w' => e = .returned (.tuple #[.int .i64 k, .bool true]) ∧ w' = w) := fun w => by
      have h := decimal_any k (S.length + U.length) (num k) rfl (by omega) hkle (by omega) w
      rw [show ((S.length + U.length : Nat) : Int) = (S.length : Int) + (U.length : Int) by omega] at h
      exact h.mono fun _ _ h => ⟨h.1, h.2.symm⟩
    have n1 : ∀ ty n, (Builtin.len_ #[25] ty #[.map (some bd)]).run Tryd.prog (w.drewN n) = .ok (.int .i64 S.length) (w.drewN n) := fun ty n => (HS.out.drewN n).len ty
    have n2 : ∀ ty n, (Builtin.len_ #[25] ty #[v]).run Tryd.prog (w.drewN n) = .ok (.int .i64 U.length) (w.drewN n) := fun ty n => (HU.out.on ((Turn.refl [] w).drewN n)).len ty
    have hwr : IntKind.i64.wrap ((S.length : Int) + (U.length : Int)) = (S.length : Int) + (U.length : Int) := by rw [IntKind.wrap_i64]; omega
    have i1 : (0 : Int) ≤ (base.size : Int) := by omega
    have i2 : (base.size : Int) ≤ ((nm base k).size : Int) := by omega
    obtain ⟨r, er⟩ : ∃ r, r = nm base k := ⟨_, rfl⟩
    rw [← er] at l1 l2 hne hne2 hpre hpost hgt hsz hrm i2 ⊢
    clear er
    have hbb : (base.toList == base.toList) = true := by simp
    have hdl : decide (r.size ≤ base.size) = false := decide_eq_false (by omega)
    by_cases q1 : base ∈ S
    · rw [decide_eq_true q1] at l3
      clear l4 q1 hbase
      go_enter Tryd.func13, Tryd.ntmps13
      go_wp2_with fail
      go_quiet ((go_at_call 26; exact Calls.quiet_of_same (HD.out _)))
      go_wp2_with fail
      clear l1 l2 l3 hne hne2 hpre hpost n1 n2 hwr HD hbb
      go_loopw [11] (fun vi wr => ∃ j : Nat, 1 ≤ j ∧ j ≤ k ∧ vi = .int .i64 j ∧ Turn [] w wr) (fun vi _ => k - (intOf vi).toNat)
      case atStart => exact ⟨1, by omega, by omega, rfl, (Turn.refl _ _).drewN nq⟩
      case round =>
        obtain ⟨j, hj1, hjk, rfl, hT⟩ := hrel
        by_cases hlt : j < k
        · have hm := HT.out j hlt
          rw [nm_pos base (show j ≠ 0 by omega), List.mem_append] at hm
          have hns : (num j).size ≤ 9 := by rw [num_size]; exact dec_len 8 j (by omega)
          go_wp2_with fail
          refine (itoa27 j hj1 (by omega) wr).mono ?_
          rintro e w5 ⟨rfl, hT5⟩
          have hT15 := hT.trans hT5
          have hcm : (base ++ num j).size ≤ maxLen := by rw [ByteArray.size_append]; unfold maxLen; omega
          have m1 := (HS.out.block (hT15.block _ HS.out.lt (by simp))).look (s := base ++ num j) hcm
          have m2 := (HU.out.on hT15).look (s := base ++ num j) hcm
          rcases hm with hm | hm
          · rw [decide_eq_true hm] at m1
            clear m2 hm
            go_wp2_with fail
            go_round
            case rel => exact ⟨j + 1, by omega, by omega, by go_num, hT15⟩
            case measure => simp [intOf]; omega
          · rw [decide_eq_true hm] at m2
            clear hm
            by_cases hs : (base ++ num j) ∈ S
            · rw [decide_eq_true hs] at m1
              clear hs
              go_wp2_with fail
              go_round
              case rel => exact ⟨j + 1, by omega, by omega, by go_num, hT15⟩
              case measure => simp [intOf]; omega
            · rw [decide_eq_false hs] at m1
              clear hs
              go_wp2_with fail
              go_round
              case rel => exact ⟨j + 1, by omega, by omega, by go_num, hT15⟩
              case measure => simp [intOf]; omega
        · go_wp2_with fail
          go_ret
          exact ⟨rfl, hT⟩
    · have q2 : base ∈ U := hbase.elim (fun h => absurd h q1) id
      rw [decide_eq_false q1] at l3
      rw [decide_eq_true q2] at l4
      clear q1 q2 hbase
      go_enter Tryd.func13, Tryd.ntmps13
      go_wp2_with fail
      go_quiet ((go_at_call 26; exact Calls.quiet_of_same (HD.out _)))
      go_wp2_with fail
      clear l1 l2 l3 l4 hne hne2 hpre hpost n1 n2 hwr HD hbb
      go_loopw [11] (fun vi wr => ∃ j : Nat, 1 ≤ j ∧ j ≤ k ∧ vi = .int .i64 j ∧ Turn [] w wr) (fun vi _ => k - (intOf vi).toNat)
      case atStart => exact ⟨1, by omega, by omega, rfl, (Turn.refl _ _).drewN nq⟩
      case round =>
        obtain ⟨j, hj1, hjk, rfl, hT⟩ := hrel
        by_cases hlt : j < k
        · have hm := HT.out j hlt
          rw [nm_pos base (show j ≠ 0 by omega), List.mem_append] at hm
          have hns : (num j).size ≤ 9 := by rw [num_size]; exact dec_len 8 j (by omega)
          go_wp2_with fail
          refine (itoa27 j hj1 (by omega) wr).mono ?_
          rintro e w5 ⟨rfl, hT5⟩
          have hT15 := hT.trans hT5
          have hcm : (base ++ num j).size ≤ maxLen := by rw [ByteArray.size_append]; unfold maxLen; omega
          have m1 := (HS.out.block (hT15.block _ HS.out.lt (by simp))).look (s := base ++ num j) hcm
          have m2 := (HU.out.on hT15).look (s := base ++ num j) hcm
          rcases hm with hm | hm
          · rw [decide_eq_true hm] at m1
            clear m2 hm
            go_wp2_with fail
            go_round
            case rel => exact ⟨j + 1, by omega, by omega, by go_num, hT15⟩
            case measure => simp [intOf]; omega
          · rw [decide_eq_true hm] at m2
            clear hm
            by_cases hs : (base ++ num j) ∈ S
            · rw [decide_eq_true hs] at m1
              clear hs
              go_wp2_with fail
              go_round
              case rel => exact ⟨j + 1, by omega, by omega, by go_num, hT15⟩
              case measure => simp [intOf]; omega
            · rw [decide_eq_false hs] at m1
              clear hs
              go_wp2_with fail
              go_round
              case rel => exact ⟨j + 1, by omega, by omega, by go_num, hT15⟩
              case measure => simp [intOf]; omega
        · go_wp2_with fail
          go_ret
          exact ⟨rfl, hT⟩

end Go.Proofs.Qxb6618755aDoor
