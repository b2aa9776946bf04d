/-
  Seat b6618748a: what a slice of ints in memory reads as; bytesMark, appendText.
-/
import Derived.Test.Qxb6618748aBytes2
namespace Go.Proofs.Qxb6618748a
open Go.RowKit
set_option linter.unusedVariables false

/-- A slice of ints in memory below block P: nil, or the numbers xs. -/
def IntsAt (w : World) (P : Nat) (ao : Option Addr) (n : Nat) (o : Option (List Int)) : Prop :=
  (ao = none ∧ n = 0 ∧ o = none) ∨
  ∃ b off sp xs, ao = some ⟨b, off, sp⟩ ∧ o = some xs ∧ xs.length = n ∧ (∀ i, i < n → sp = none ∧ b < P ∧ w.cell? ⟨b, off + i, none⟩ = some (.int .i64 (xs.getD i 0))) ∧ ∀ x ∈ xs, -9223372036854775808 ≤ x ∧ x ≤ 9223372036854775807

theorem IntsAt.below {w w' : World} {P : Nat} {ao : Option Addr} {n : Nat} {o : Option (List Int)} (h : IntsAt w P ao n o) (hb : Below P w w') : IntsAt w' P ao n o := by
  rcases h with h | ⟨b, off, sp, xs, h1, h2, h3, h4, h5⟩
  · exact .inl h
  · refine .inr ⟨b, off, sp, xs, h1, h2, h3, fun i hi => ?_, h5⟩
    obtain ⟨h6, h7, h8⟩ := h4 i hi
    exact ⟨h6, h7, (hb.cell (p := ⟨b, off + i, none⟩) h7).trans h8⟩

theorem IntsAt.mono {w : World} {P P' : Nat} {ao : Option Addr} {n : Nat} {o : Option (List Int)} (h : IntsAt w P ao n o) (hP : P ≤ P') : IntsAt w P' ao n o := by
  rcases h with h | ⟨b, off, sp, xs, h1, h2, h3, h4, h5⟩
  · exact .inl h
  · refine .inr ⟨b, off, sp, xs, h1, h2, h3, fun i hi => ?_, h5⟩
    obtain ⟨h6, h7, h8⟩ := h4 i hi
    exact ⟨h6, by omega, h8⟩

/-- A text's bytes as numbers. -/
def tl (t : ByteArray) : List Int := t.data.toList.map fun b => (b.toNat : Int)
theorem tl_length (t : ByteArray) : (tl t).length = t.size := by simp [tl]
theorem tl_getD (t : ByteArray) (k : Nat) (h : k < t.size) : (tl t).getD k 0 = ((t[k]'h).toNat : Int) := by
  have h' : k < t.data.toList.length := by simpa using h
  simp only [tl, List.getD_eq_getElem?_getD, List.getElem?_map, List.getElem?_eq_getElem h', Option.map_some, Option.getD_some]
  rfl

def mark (t : ByteArray) (o : Option (List Int)) : Int :=
  match o with
  | none => 0
  | some xs => if xs = tl t then 1 else 2

theorem ne_of_take {xs ys : List Int} {k : Nat} (h1 : k < xs.length) (h2 : k < ys.length) (h : xs.getD k 0 ≠ ys.getD k 0) : xs ≠ ys := fun e => h (by rw [e])

theorem ret_int {k : IntKind} {a b : Int} (h : a = b) : Ending.returned (.int k a) = .returned (.int k b) := by rw [h]

theorem w64_byte (b : UInt8) : wrap64 (b.toNat : Int) = (b.toNat : Int) := by
  have := b.toNat_lt
  unfold wrap64
  omega

theorem take_succ_eq {xs ys : List Int} {k : Nat} (h1 : k < xs.length) (h2 : k < ys.length) (h : xs.take k = ys.take k) (he : xs.getD k 0 = ys.getD k 0) : xs.take (k + 1) = ys.take (k + 1) := by
  rw [List.take_succ_eq_append_getElem h1, List.take_succ_eq_append_getElem h2, h]
  simp only [List.getD_eq_getElem?_getD, List.getElem?_eq_getElem h1, List.getElem?_eq_getElem h2, Option.getD_some] at he
  rw [he]

set_option maxHeartbeats 1000000 in
theorem mark_any (t : ByteArray) (ao : Option Addr) (n c P : Nat) (o : Option (List Int)) (w : World) (hI : IntsAt w P ao n o) (hn : n ≤ 1048576) (ht : t.size ≤ 1048576) (hnil : ao = none → c = 0) :
    Calls Try.prog 52 #[.string t, .slice ao n c] w fun e w' => e = .returned (.int .u64 (mark t o)) ∧ w = w' := by
  rcases hI with ⟨rfl, rfl, rfl⟩ | ⟨b, off, sp, xs, rfl, rfl, hl, hc, _⟩
  · obtain rfl := hnil rfl
    have hne := Lib.run_eql_slice_nil (P := Try.prog)
    go_enter Try.func52, Try.ntmps52
    go_wp2
    go_ret
    exact ⟨rfl, rfl⟩
  · have hne := Lib.run_eql_slice_nil (P := Try.prog)
    have HL := hid hl
    have HC := hid hc
    have HT := hid (tl_length t)
    clear hl hc hnil
    by_cases hlen : n = t.size
    · have hb : ((n : Int) != (t.size : Int)) = false := by rw [hlen]; simp
      have hle : n ≤ t.size := by omega
      have hge : t.size ≤ n := by omega
      clear hlen
      go_enter Try.func52, Try.ntmps52
      go_wp2
      go_loop [16] (fun i => ∃ k : Nat, k ≤ n ∧ i = .int .i64 k ∧ Hid (xs.take k = (tl t).take k)) (fun i => n - (intOf i).toNat)
      case atStart => exact ⟨0, Nat.zero_le _, rfl, rfl⟩
      case round =>
        obtain ⟨k, hk, rfl, HK⟩ := hrel
        by_cases hlt : k < n
        · obtain ⟨hsp, _, hck⟩ := HC.out k hlt
          have hkt : k < t.size := by omega
          have HG := hid (tl_getD t k hkt)
          obtain ⟨x, hx⟩ : ∃ x, x = xs.getD k 0 := ⟨_, rfl⟩
          rw [← hx] at hck
          have HX := hid hx
          clear hx
          obtain rfl := hsp
          by_cases he : x = wrap64 ((t[k]'hkt).toNat : Int)
          · have hb1 : (x != wrap64 ((t[k]'hkt).toNat : Int)) = false := by rw [he]; simp
            have HE := hid he
            clear he
            go_wp2
            go_round
            case rel =>
              refine ⟨k + 1, by omega, by go_num, ?_⟩
              refine take_succ_eq (by rw [HL.out]; omega) (by rw [HT.out]; omega) HK.out ?_
              rw [← HX.out, HG.out, HE.out, w64_byte]
            case measure => simp [intOf]; omega
          · have hb1 : (x != wrap64 ((t[k]'hkt).toNat : Int)) = true := by simpa using he
            have HE := hid he
            clear he
            go_wp2
            go_ret
            refine ⟨ret_int ?_, rfl⟩
            have : xs ≠ tl t := fun e => HE.out (by rw [HX.out, e, HG.out, w64_byte])
            simp [mark, this]
        · go_wp2
          go_ret
          refine ⟨ret_int ?_, rfl⟩
          have h := HK.out
          rw [List.take_of_length_le (by rw [HL.out]; omega), List.take_of_length_le (by rw [HT.out]; omega)] at h
          simp [mark, h]
    · have hb : ((n : Int) != (t.size : Int)) = true := by rw [bne_iff_ne]; omega
      go_enter Try.func52, Try.ntmps52
      go_wp2
      go_ret
      refine ⟨ret_int ?_, rfl⟩
      have : xs ≠ tl t := fun e => hlen (by rw [← HL.out, e, HT.out])
      simp [mark, this]

end Go.Proofs.Qxb6618748a
