/-
  Seat b6618748a: isTokenItself, its loop; all its ways in one contract.
-/
import Derived.Test.Qxb6618748aItself
namespace Go.Proofs.Qxb6618748a
open Go.RowKit
set_option linter.unusedVariables false
attribute [local go_sem] call47

theorem ret_bool {a b : Bool} (h : a = b) : Ending.returned (.bool a) = .returned (.bool b) := by rw [h]

set_option maxHeartbeats 2000000 in
theorem itself_some (t : ByteArray) (tb : Nat) (to co : Option Addr) (n tc cc P : Nat) (tv : Value) (xs ys : List Int) (w : World)
    (hT : IntsAt w P to n (some xs)) (hC : IntsAt w P co n (some ys)) (hP : P ≤ w.heap.size) (hn : n ≤ 1048576) :
    Calls Try.prog 48 #[.agg #[.string t, .float .f64 tb, .slice to n tc, tv], .agg #[.string t, .float .f64 tb, .slice co n cc]] w fun e w' => e = .returned (.bool (decide (ys = xs))) ∧ Fr w.heap.size none w w' := by
  have hne := Lib.run_eql_slice_nil (P := Try.prog)
  rcases hT with ⟨_, _, h⟩ | ⟨b1, off1, sp1, xs', rfl, hx, hl1, hc1, _⟩
  · cases h
  rcases hC with ⟨_, _, h⟩ | ⟨b2, off2, sp2, ys', rfl, hy, hl2, hc2, _⟩
  · cases h
  obtain rfl := Option.some.inj hx
  obtain rfl := Option.some.inj hy
  have HL1 := hid hl1
  have HL2 := hid hl2
  have HC1 := hid hc1
  have HC2 := hid hc2
  clear hl1 hl2 hc1 hc2 hx hy
  go_enter Try.func48, Try.ntmps48
  go_wp2_with fail
  go_quiet (fail)
  go_wp2_with fail
  go_loop [42] (fun i => ∃ k : Nat, k ≤ n ∧ i = .int .i64 k ∧ Hid (ys.take k = xs.take k)) (fun i => n - (intOf i).toNat)
  case atStart => exact ⟨0, Nat.zero_le _, rfl, rfl⟩
  case round =>
    obtain ⟨k, hk, rfl, HK⟩ := hrel
    by_cases hlt : k < n
    · obtain ⟨hsp1, hb1, hck1⟩ := HC1.out k hlt
      obtain ⟨hsp2, hb2, hck2⟩ := HC2.out k hlt
      have hb1' : b1 < w.heap.size := by omega
      have hb2' : b2 < w.heap.size := by omega
      have hb1'' : b1 < w.heap.size + 1 := by omega
      have hb2'' : b2 < w.heap.size + 1 := by omega
      obtain ⟨x, hx⟩ : ∃ x, x = xs.getD k 0 := ⟨_, rfl⟩
      obtain ⟨y, hy⟩ : ∃ y, y = ys.getD k 0 := ⟨_, rfl⟩
      rw [← hx] at hck1
      rw [← hy] at hck2
      have HX := hid hx
      have HY := hid hy
      clear hx hy
      obtain rfl := hsp1
      obtain rfl := hsp2
      by_cases he : y = x
      · have hbb : (y != x) = false := by rw [he]; simp
        have HE := hid he
        clear he
        go_wp2
        go_round
        case rel => exact ⟨k + 1, by omega, by go_num, take_succ_eq (by rw [HL2.out]; omega) (by rw [HL1.out]; omega) HK.out (by rw [← HX.out, ← HY.out]; exact HE.out)⟩
        case measure => simp [intOf]; omega
      · have hbb : (y != x) = true := by simpa using he
        have HE := hid he
        clear he
        go_wp2
        go_ret
        have : ys ≠ xs := fun e => HE.out (by rw [HX.out, HY.out, e])
        exact ⟨ret_bool (by simp [this]), fr_two _ _ _ _⟩
    · go_wp2
      go_ret
      have h := HK.out
      rw [List.take_of_length_le (by rw [HL2.out]; omega), List.take_of_length_le (by rw [HL1.out]; omega)] at h
      exact ⟨ret_bool (by simp [h]), fr_two _ _ _ _⟩

/-- The candidate is its token itself. -/
def same (t : ByteArray) (tb : Nat) (to : Option (List Int)) (c : ByteArray) (cb : Nat) (co : Option (List Int)) : Bool := decide (c = t) && decide (cb = tb) && decide (co = to)

theorem itself_any (t c : ByteArray) (tb cb : Nat) (ta ca : Option Addr) (tn tc cn cc P : Nat) (to co : Option (List Int)) (tv : Value) (w : World)
    (hT : IntsAt w P ta tn to) (hC : IntsAt w P ca cn co) (hP : P ≤ w.heap.size) (htn : tn ≤ 1048576) (hcn : cn ≤ 1048576) :
    Calls Try.prog 48 #[.agg #[.string t, .float .f64 tb, .slice ta tn tc, tv], .agg #[.string c, .float .f64 cb, .slice ca cn cc]] w fun e w' => e = .returned (.bool (same t tb to c cb co)) ∧ Fr w.heap.size none w w' := by
  by_cases h1 : c = t
  · subst h1
    by_cases h2 : cb = tb
    · subst h2
      have e0 : same c cb to c cb co = decide (co = to) := by simp [same]
      rw [e0]
      have hT' := hT
      have hC' := hC
      rcases hT with ⟨rfl, rfl, rfl⟩ | ⟨b1, off1, sp1, xs, rfl, rfl, hl1, hc1, _⟩
      · rcases hC with ⟨rfl, rfl, rfl⟩ | ⟨b2, off2, sp2, ys, rfl, rfl, hl2, hc2, _⟩
        · simpa using itself_none c cb tc cc tv w
        · simpa using itself_nil2 c cb ⟨b2, off2, sp2⟩ 0 tc cn cc tv w
      · rcases hC with ⟨rfl, rfl, rfl⟩ | ⟨b2, off2, sp2, ys, rfl, rfl, hl2, hc2, _⟩
        · simpa using itself_nil1 c cb ⟨b1, off1, sp1⟩ tn tc 0 cc tv w
        · by_cases h3 : cn = tn
          · subst h3
            have := itself_some c cb _ _ cn tc cc P tv xs ys w hT' hC' hP htn
            simpa using this
          · have : ys ≠ xs := fun e => h3 (by rw [← hl1, ← hl2, e])
            simpa [this] using itself_len c cb ⟨b1, off1, sp1⟩ ⟨b2, off2, sp2⟩ tn tc cn cc tv w h3
    · have e0 : same c tb to c cb co = false := by simp [same, h2]
      rw [e0]
      exact itself_bits c tb cb ta ca tn tc cn cc tv w h2
  · have e0 : same t tb to c cb co = false := by simp [same, h1]
    rw [e0]
    exact itself_tok t c tb cb ta ca tn tc cn cc tv w h1

end Go.Proofs.Qxb6618748a
