/-
  Seat b6618755aD: gfb1Decimal, gfb1Itoa.
-/
import Derived.Test.Qxb6618755aDoorFile
namespace Go.Proofs.Qxb6618755aDoor
open Go.RowKit
set_option linter.unusedVariables false

theorem val_le_snoc (l : List UInt8) (c : UInt8) : val l ≤ val (l ++ [c]) := by rw [val_snoc]; omega
theorem val_le_append (l : List UInt8) : ∀ m : List UInt8, val l ≤ val (l ++ m)
  | [] => by simp
  | c :: m => by
    have h1 := val_le_snoc l c
    have h2 := val_le_append (l ++ [c]) m
    rw [List.append_assoc] at h2
    exact Nat.le_trans h1 h2
theorem val_take (l : List UInt8) (i : Nat) : val (l.take i) ≤ val l := by
  have := val_le_append (l.take i) (l.drop i)
  rwa [List.take_append_drop] at this
theorem val_step (l : List UInt8) (i : Nat) (h : i < l.length) : val (l.take (i + 1)) = val (l.take i) * 10 + (l[i].toNat - 48) := by
  rw [List.take_succ_eq_append_getElem h, val_snoc]

theorem num_at (k i : Nat) (h : i < (num k).size) : (num k)[i] = (Lib.decDigits k)[i]'(by rw [num_size] at h; exact h) := by
  simp [num, ByteArray.getElem_eq_getElem_data]

set_option maxHeartbeats 4000000 in
set_option maxRecDepth 100000 in
theorem decimal_any (k lim : Nat) (s : ByteArray) (hs : s = num k) (hk : 1 ≤ k) (hl : k ≤ lim) (hlim : lim < 1000000000) (w : World) :
    Calls Tryd.prog 26 #[.string s, .int .i64 lim] w fun e w' => e = .returned (.tuple #[.int .i64 k, .bool true]) ∧ w = w' := by
  have z1 : 0 < s.size := by rw [hs, num_size]; exact dec_pos k
  have z2 : s.size ≤ 9 := by rw [hs, num_size]; exact dec_len 8 k (by omega)
  have dg : ∀ i (h : i < s.size), 48 ≤ (s[i]'h).toNat ∧ (s[i]'h).toNat ≤ 57 := by
    subst hs
    intro i h
    rw [num_at]
    exact dec_digit k _ (List.getElem_mem _)
  have d0 : ((s[0]'z1).toNat : Int) ≠ 48 := by
    subst hs
    rw [num_at]
    obtain ⟨c, l, e, hc⟩ := dec_head k hk
    simp only [e, List.getElem_cons_zero]
    omega
  have step : ∀ i (h : i < s.size), val ((Lib.decDigits k).take (i + 1)) = val ((Lib.decDigits k).take i) * 10 + ((s[i]'h).toNat - 48) := by
    subst hs
    intro i h
    rw [num_at]
    exact val_step _ _ _
  have hfin : val ((Lib.decDigits k).take s.size) = k := by
    rw [hs, num_size, List.take_length, val_dec]
  have hb : ∀ i, val ((Lib.decDigits k).take i) ≤ k := fun i => Nat.le_trans (val_take _ i) (by rw [val_dec]; exact Nat.le_refl _)
  have DG := hid dg
  have ST := hid step
  have HF := hid hfin
  have HB := hid hb
  clear hs dg step hfin hb
  have d0' : (((s[0]'z1).toNat : Int) == 48) = false := beq_eq_false_iff_ne.2 d0
  have e0 : ((s.size : Int) == 0) = false := beq_eq_false_iff_ne.2 (by omega)
  have e1 : ¬ s = ByteArray.empty := fun e => by rw [e] at z1; simp at z1
  have e9 : decide (9 < (s.size : Int)) = false := decide_eq_false (by omega)
  go_enter Tryd.func26, Tryd.ntmps26
  go_wp2
  go_loop [6, 7] (fun vk vi => ∃ i : Nat, i ≤ s.size ∧ vi = .int .i64 i ∧ vk = .int .i64 (val ((Lib.decDigits k).take i) : Nat)) (fun _ vi => s.size - (intOf vi).toNat)
  case atStart => exact ⟨0, Nat.zero_le _, rfl, rfl⟩
  case round =>
    obtain ⟨i, hi, rfl, rfl⟩ := hrel
    have hbi := HB.out i
    by_cases hlt : i < s.size
    · have hd := DG.out i hlt
      have hst := ST.out i hlt
      have hb2 := HB.out (i + 1)
      obtain ⟨v, ev⟩ : ∃ v, v = val ((Lib.decDigits k).take i) := ⟨_, rfl⟩
      rw [← ev] at hst hbi ⊢
      have HS := hid hst
      clear hst ev
      have q1 := hd.1
      have q2 := hd.2
      go_wp2
      go_round
      case rel =>
        refine ⟨i + 1, by omega, by go_num, ?_⟩
        have h := HS.out
        congr 1
        omega
      case measure => simp [intOf]; omega
    · obtain rfl : i = s.size := by omega
      rw [HF.out]
      go_wp2
      go_ret2
      exact ⟨rfl, rfl⟩

end Go.Proofs.Qxb6618755aDoor
