/-
  Seat b6618755aD: gfb1Base is path.Base.
-/
import Derived.Test.Qxb6618755aDoorImport
namespace Go.Proofs.Qxb6618755aDoor
open Go.RowKit Go.Lib
set_option linter.unusedVariables false

theorem ne_empty {s : ByteArray} (h : 0 < s.size) : s.toList.isEmpty = false := by
  rw [Lib.toList_data]
  rw [Lib.size_eq] at h
  cases hl : s.data.toList with
  | nil => rw [hl] at h; simp at h
  | cons a l => rfl

/-- Where the first loop stands still at e bytes and the second at place a. -/
theorem base_at (s : ByteArray) (e a : Nat) (h0 : 0 < s.size) (he : e ≤ s.size) (he0 : 0 < e) (hstop : Pa.trimLen s.data.toList e = e) (hh : Pa.trimLen s.data.toList e = Pa.trimLen s.data.toList s.size) (ha : a < e)
    (hl : Pa.lastIndexByte (s.data.toList.take e) 47 + 1 = (a : Int)) : s.extract a e = pb s := by
  have hne : s.toList.isEmpty = false := ne_empty h0
  have hb := Pa.base_of s (s.extract 0 e) e _ hne (Pa.extract_upto_list s e) hstop (by rw [hh, Lib.size_eq]) rfl
  rw [Pa.extract_upto_list, hl] at hb
  have hln : (s.data.toList.take e).length = e := by rw [List.length_take, ← Lib.size_eq]; omega
  rw [if_neg (by
    intro h
    have := congrArg List.length h
    rw [List.length_drop, hln] at this
    simp at this
    omega)] at hb
  apply bytes_eq
  show _ = (Pa.base s.data.toList)
  rw [hb, List.drop_take]
  simp

theorem base_slash (s : ByteArray) (h0 : 0 < s.size) (hh : 0 = Pa.trimLen s.data.toList s.size) : (⟨#[47]⟩ : ByteArray) = pb s := by
  have hne : s.toList.isEmpty = false := ne_empty h0
  have hb := Pa.base_of s (s.extract 0 0) 0 _ hne (Pa.extract_upto_list s 0) rfl (by rw [← Lib.size_eq]; exact hh) rfl
  rw [Pa.extract_upto_list] at hb
  simp at hb
  apply bytes_eq
  show _ = (Pa.base s.data.toList)
  rw [hb]

set_option maxHeartbeats 4000000 in
set_option maxRecDepth 100000 in
theorem base_any (s : ByteArray) (hs : s.size ≤ 1048576) (w : World) :
    Calls Tryd.prog 17 #[.string s] w fun e w' => e = .returned (.string (pb s)) ∧ w = w' := by
  by_cases h0 : s.size = 0
  · obtain rfl : s = ByteArray.empty := by
      cases s with | mk d =>
      have : d = #[] := by simpa [ByteArray.size] using h0
      subst this
      rfl
    go_enter Tryd.func17, Tryd.ntmps17
    go_wp2
    go_ret
    exact ⟨rfl, rfl⟩
  · have hpos : 0 < s.size := by omega
    have hne : s.toList.isEmpty = false := ne_empty hpos
    have hne1 : ¬ s = ByteArray.empty := fun e => by rw [e] at hpos; simp at hpos
    go_enter Tryd.func17, Tryd.ntmps17
    go_wp2
    go_loop [3] (fun ve => ∃ e : Nat, e ≤ s.size ∧ ve = .int .i64 e ∧ Hid (Pa.trimLen s.data.toList e = Pa.trimLen s.data.toList s.size)) (fun ve => (RowKit.intOf ve).toNat)
    case atStart => exact ⟨s.size, Nat.le_refl _, rfl, rfl⟩
    case round =>
      obtain ⟨e, he, rfl, HH⟩ := hrel
      by_cases he0 : 0 < e
      · have hat := Pa.at_eq s (e - 1) (by omega)
        have HA := hid hat
        clear hat
        have hei : (1 : Int) ≤ (e : Int) := by omega
        cases hq : ((((s[e - 1]'(by omega)).toNat : Int)) == 47) with
        | true =>
          go_wp2
          go_round
          case rel => exact ⟨e - 1, by omega, by first | go_num | (congr 1; omega), (Pa.trimLen_on _ e _ he0 HA.out hq).symm.trans HH.out⟩
          case measure => simp [RowKit.intOf]; omega
        | false =>
          have HS := hid (Pa.trimLen_stop _ e _ he0 HA.out hq)
          have hee : ((e : Int) == 0) = false := beq_eq_false_iff_ne.2 (by omega)
          go_wp2
          have hln : (s.data.toList.take e).length = e := by rw [List.length_take, ← Lib.size_eq]; omega
          go_loop [4] (fun va => ∃ a : Nat, a ≤ e ∧ va = .int .i64 a ∧ Hid (Pa.lastIdx (s.data.toList.take e) 47 a = Pa.lastIndexByte (s.data.toList.take e) 47)) (fun va => (RowKit.intOf va).toNat)
          case atStart => exact ⟨e, Nat.le_refl _, rfl, by show _ = _; rw [Pa.lastIndexByte, hln]⟩
          case round =>
            obtain ⟨a, hae, rfl, HI⟩ := hrel
            by_cases ha0 : 0 < a
            · have hat2 : (s.data.toList.take e)[a - 1]? = some (s[a - 1]'(by omega)) := by
                rw [List.getElem?_take, if_pos (by omega)]
                exact Pa.at_eq s (a - 1) (by omega)
              have HA2 := hid hat2
              clear hat2
              have hai : (1 : Int) ≤ (a : Int) := by omega
              cases hr : ((((s[a - 1]'(by omega)).toNat : Int)) == 47) with
              | false =>
                go_wp2
                go_round
                case rel => exact ⟨a - 1, by omega, by first | go_num | (congr 1; omega), (Pa.lastIdx_miss _ 47 a _ ha0 HA2.out hr).symm.trans HI.out⟩
                case measure => simp [RowKit.intOf]; omega
              | true =>
                have hlt : a < e := by
                  rcases Nat.lt_or_ge a e with h | h
                  · exact h
                  · obtain rfl : a = e := by omega
                    rw [hr] at hq; cases hq
                have hfin := hid (base_at s e a hpos he he0 HS.out HH.out hlt (by rw [← HI.out, Pa.lastIdx_hit _ 47 a _ ha0 HA2.out hr]; omega))
                have i1 : (a : Int) ≤ e := by omega
                have i2 : (e : Int) ≤ s.size := by omega
                go_wp2
                go_ret
                exact ⟨by rw [← hfin.out]; rfl, rfl⟩
            · obtain rfl : a = 0 := by omega
              have hfin := hid (base_at s e 0 hpos he he0 HS.out HH.out he0 (by rw [← HI.out]; rfl))
              have i2 : (e : Int) ≤ s.size := by omega
              go_wp2
              go_ret
              exact ⟨by rw [← hfin.out]; rfl, rfl⟩
      · obtain rfl : e = 0 := by omega
        have hH := hid (base_slash s hpos (by have := HH.out; exact this))
        go_wp2
        go_ret
        exact ⟨by rw [← hH.out]; rfl, rfl⟩

end Go.Proofs.Qxb6618755aDoor
