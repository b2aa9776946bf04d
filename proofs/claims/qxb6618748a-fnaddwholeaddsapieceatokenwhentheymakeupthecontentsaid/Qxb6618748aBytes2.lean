/-
  Seat b6618748a: AppendVarint, LittleEndian.AppendUint64, Float64bits; bytesMark, appendText.
-/
import Derived.Test.Qxb6618748aBytes
import Derived.Lib.Zigzag
namespace Go.Proofs.Qxb6618748a
open Go.RowKit

set_option maxHeartbeats 1000000 in
theorem varint_any (B n : Nat) (x : Int) (h0 : -9223372036854775808 ≤ x) (h1 : x ≤ 9223372036854775807) (ao : Option Addr) (cap : Nat) (xs : List Value) (w : World) (hown : w.ownsRow B 5 1 (.slice ao n cap) n xs) (hBw : B ≤ w.heap.size) (hlim : n + 10 ≤ 140737488355328) :
    Calls Try.prog 53 #[.slice ao n cap, .int .i64 x] w fun e w' => ∃ ao' cap', e = .returned (.slice ao' (n + (Lib.uvarint (Lib.zigzag x)).length) cap') ∧ w'.ownsRow B 5 1 (.slice ao' (n + (Lib.uvarint (Lib.zigzag x)).length) cap') (n + (Lib.uvarint (Lib.zigzag x)).length) (xs ++ Lib.byteCells (Lib.uvarint (Lib.zigzag x))) ∧ Fr B none w w' := by
  have hU := uvarint_any B n (Lib.zigzag x) (Lib.zigzag_lt h0 h1) ao cap xs w hown hBw hlim
  by_cases hneg : x < 0
  · rw [← Lib.zigzag_neg h0 hneg] at hU
    have HU := hid hU
    clear hU hown
    go_enter Try.func53, Try.ntmps53
    go_wp2_with (go_at_call 36; refine HU.out.mono ?_; rintro e w1 ⟨ao', cap', rfl, ho, hb⟩)
    go_ret
    exact ⟨ao', cap', rfl, ho, hb⟩
  · rw [Lib.zigzag_nonneg (by omega)] at hU
    have HU := hid hU
    clear hU hown
    go_enter Try.func53, Try.ntmps53
    go_wp2_with (go_at_call 36; refine HU.out.mono ?_; rintro e w1 ⟨ao', cap', rfl, ho, hb⟩)
    go_ret
    exact ⟨ao', cap', rfl, ho, hb⟩

set_option maxHeartbeats 2000000 in
set_option maxRecDepth 100000 in
theorem uint64_any (B n v : Nat) (hv : v < 18446744073709551616) (ao : Option Addr) (cap : Nat) (xs : List Value) (w : World) (hown : w.ownsRow B 5 1 (.slice ao n cap) n xs) (hBw : B ≤ w.heap.size) (hlim : n + 8 ≤ 140737488355328) :
    Calls Try.prog 46 #[.agg #[], .slice ao n cap, .int .u64 v] w fun e w' => ∃ ao' cap', e = .returned (.slice ao' (n + 8) cap') ∧ w'.ownsRow B 5 1 (.slice ao' (n + 8) cap') (n + 8) (xs ++ Lib.byteCells (Lib.leBytes 8 v)) ∧ Fr B none w w' := by
  obtain ⟨i0, hi, hz0, hz1, hz2⟩ := info_parts info5
  have e0 : ((v % 256 : Nat) : Int) = (v : Int) % 256 := by omega
  have e1 : ((v / 256 % 256 : Nat) : Int) = (v : Int) / 256 % 256 := by omega
  have e2 : ((v / 256 / 256 % 256 : Nat) : Int) = (v : Int) / 65536 % 256 := by omega
  have e3 : ((v / 256 / 256 / 256 % 256 : Nat) : Int) = (v : Int) / 16777216 % 256 := by omega
  have e4 : ((v / 256 / 256 / 256 / 256 % 256 : Nat) : Int) = (v : Int) / 4294967296 % 256 := by omega
  have e5 : ((v / 256 / 256 / 256 / 256 / 256 % 256 : Nat) : Int) = (v : Int) / 1099511627776 % 256 := by omega
  have e6 : ((v / 256 / 256 / 256 / 256 / 256 / 256 % 256 : Nat) : Int) = (v : Int) / 281474976710656 % 256 := by omega
  have e7 : ((v / 256 / 256 / 256 / 256 / 256 / 256 / 256 % 256 : Nat) : Int) = (v : Int) / 72057594037927936 := by omega
  have hb : Lib.byteCells (Lib.leBytes 8 v) = [Value.int .u8 ((v : Int) % 256), Value.int .u8 ((v : Int) / 256 % 256), Value.int .u8 ((v : Int) / 65536 % 256), Value.int .u8 ((v : Int) / 16777216 % 256), Value.int .u8 ((v : Int) / 4294967296 % 256), Value.int .u8 ((v : Int) / 1099511627776 % 256), Value.int .u8 ((v : Int) / 281474976710656 % 256), Value.int .u8 ((v : Int) / 72057594037927936)] := by
    simp only [Lib.byteCells, Lib.leBytes, List.map, Lib.toUInt8_mod, e0, e1, e2, e3, e4, e5, e6, e7]
  have HB := hid hb
  clear hb e0 e1 e2 e3 e4 e5 e6 e7
  go_enter Try.func46, Try.ntmps46
  go_wp2_with (at_builtin; refine wpList_append_own _ rfl _ _ 39 rfl B 5 i0 (.int .u8 0) 1 1 Try.underlying39 hi hz0 hz1 hz2 rfl (by decide) _ _ _ rfl ((hown.alloc _).alloc _) _ 8 8 [Value.int .u8 ((v : Int) % 256), Value.int .u8 ((v : Int) / 256 % 256), Value.int .u8 ((v : Int) / 65536 % 256), Value.int .u8 ((v : Int) / 16777216 % 256), Value.int .u8 ((v : Int) / 4294967296 % 256), Value.int .u8 ((v : Int) / 1099511627776 % 256), Value.int .u8 ((v : Int) / 281474976710656 % 256), Value.int .u8 ((v : Int) / 72057594037927936)] rfl rfl ?c1 ?c2 ?c3 ?c4 ?c5 ?_)
  case c1 =>
    intro j u hj
    match j, hj with
    | 0, hj => simp at hj; subst hj; simp [Addr.add]
    | 1, hj => simp at hj; subst hj; simp [Addr.add]
    | 2, hj => simp at hj; subst hj; simp [Addr.add]
    | 3, hj => simp at hj; subst hj; simp [Addr.add]
    | 4, hj => simp at hj; subst hj; simp [Addr.add]
    | 5, hj => simp at hj; subst hj; simp [Addr.add]
    | 6, hj => simp at hj; subst hj; simp [Addr.add]
    | 7, hj => simp at hj; subst hj; simp [Addr.add]
  case c2 => intro u hu; simp at hu; rcases hu with rfl | rfl | rfl | rfl | rfl | rfl | rfl | rfl <;> rfl
  case c3 => unfold maxLen; omega
  case c4 => omega
  case c5 => simp; omega
  intro v' w1 hown' hgrow _
  have hnx1 : Fr B none w w1 := (((Fr.refl B none w).alloc (by omega) _).alloc (by simp; omega) _).grown hgrow ((hown.alloc _).alloc _) (by simp; omega)
  obtain ⟨ao2, cap2, hv2⟩ := owns_slice hown'
  rw [hv2] at hown' ⊢
  clear hgrow hv2
  go_wp2
  go_ret
  exact ⟨ao2, cap2, rfl, by rw [HB.out]; exact hown', hnx1⟩

end Go.Proofs.Qxb6618748a
