/-
  Seat b6618748a: the frame that the byte appenders keep, and the contracts of encoding/binary's appenders on a slice that the call owns (the kit's own walks of these library bodies, turned to this program, with a frame that keeps every block that is no row of bytes).
-/
import Derived.Test.Qxb6618748aProg
import Derived.WalkKit
import Derived.WalkSpells
import Derived.WalkLawsBesides
import Derived.Lib.VarintMem
import Derived.Lib.OthersKept
import Derived.Lib.AppendStr
import Derived.Lib.Endian
namespace Go.Proofs.Qxb6618748a
open Go.RowKit

theorem hid {p : Prop} (h : p) : Hid p := h

/-- Below block B nothing has turned; above it only block b, rows of bytes, and what is new. -/
def Fr (B : Nat) (b : Option Nat) (w w' : World) : Prop := Below B w w' ∧ Lib.OthersKept 5 b w w'

theorem Fr.refl (B : Nat) (b : Option Nat) (w : World) : Fr B b w w := ⟨Below.refl _ _, Lib.OthersKept.refl _ _ _⟩
theorem Fr.trans {B : Nat} {b : Option Nat} {w w1 w2 : World} (h : Fr B b w w1) (k : Fr B b w1 w2) : Fr B b w w2 := ⟨h.1.trans k.1, h.2.trans k.2⟩
theorem Fr.drew {B : Nat} {b : Option Nat} {w w1 : World} (h : Fr B b w w1) : Fr B b w w1.drew := ⟨h.1.drew, h.2.drew⟩
theorem Fr.alloc {B : Nat} {b : Option Nat} {w w1 : World} (h : Fr B b w w1) (hB : B ≤ w1.heap.size) (o : Obj) : Fr B b w (w1.alloc o) := ⟨h.1.alloc hB o, h.2.alloc o⟩
theorem Fr.mono {B B' : Nat} {b : Option Nat} {w w1 : World} (h : Fr B b w w1) (hB : B' ≤ B) : Fr B' b w w1 := ⟨h.1.mono hB, h.2⟩
theorem Fr.any {B : Nat} {b : Option Nat} {w w1 : World} (h : Fr B none w w1) : Fr B b w w1 := ⟨h.1, fun k o hk _ ho => h.2 k o hk (by simp) ho⟩
/-- A store into a block that is new since w. -/
theorem Fr.setNew {B : Nat} {b : Option Nat} {w w1 : World} (h : Fr B b w w1) {p : Addr} (hp : w.heap.size ≤ p.block) (hB : B ≤ p.block) (v : Value) : Fr B b w (w1.setCell p v) := by
  refine ⟨h.1.setCell hB v, fun k o hk hb ho => ?_⟩
  have hlt : k < w.heap.size := (Array.getElem?_eq_some_iff.1 hk).1
  rw [Below.heap_setCell _ _ _ _ (by omega)]
  exact h.2 k o hk hb ho
/-- A store into block b itself. -/
theorem Fr.setOwn {B b : Nat} {w w1 : World} (h : Fr B (some b) w w1) {p : Addr} (hp : p.block = b) (hB : B ≤ b) (v : Value) : Fr B (some b) w (w1.setCell p v) :=
  ⟨h.1.setCell (by omega) v, h.2.setCell p hp v⟩

theorem owns_kind {w : World} {B : Nat} {v : Value} {n : Nat} {xs : List Value} (h : w.ownsRow B 5 1 v n xs) : ∀ g, v.ownBlock = some g → ∃ c fz, w.heap[g]? = some (.cells c 5 fz) := by
  intro g hg
  rcases h.2 with ⟨rfl, _⟩ | ⟨g', cap, cur, rfl, _, hgg, _⟩
  · simp [Value.ownBlock] at hg
  · simp [Value.ownBlock] at hg
    subst hg
    exact ⟨cur, (0, 0), hgg⟩

theorem Fr.grown {B : Nat} {b : Option Nat} {a w w' : World} {v : Value} {n : Nat} {xs : List Value} (h : Fr B b a w) (hg : w.grownBy w' v.ownBlock) (hown : w.ownsRow B 5 1 v n xs) (hB : B ≤ w.heap.size) : Fr B b a w' :=
  ⟨h.1.grown hg hB (fun k hk => (hown.lt k hk).1), h.2.grown hg (owns_kind hown)⟩

/-- An owned value is a slice whose length is told. -/
theorem owns_slice {w : World} {B : Nat} {v : Value} {n : Nat} {xs : List Value} (h : w.ownsRow B 5 1 v n xs) : ∃ ao cap, v = .slice ao n cap := by
  rcases h.2 with ⟨rfl, rfl⟩ | ⟨g, cap, cur, rfl, _⟩
  · exact ⟨none, 0, rfl⟩
  · exact ⟨_, _, rfl⟩

theorem info5 : (Try.prog.info? 5).map (fun i => (i.zero, i.size, i.bytes)) = some (some (.int .u8 0), 1, 1) := by kernel_rfl

set_option maxHeartbeats 2000000 in
set_option maxRecDepth 100000 in
theorem uvarint_any (B n x : Nat) (hx : x < 18446744073709551616) (ao : Option Addr) (cap : Nat) (xs : List Value) (w : World) (hown : w.ownsRow B 5 1 (.slice ao n cap) n xs) (hBw : B ≤ w.heap.size) (hlim : n + 10 ≤ 140737488355328) :
    Calls Try.prog 36 #[.slice ao n cap, .int .u64 x] w fun e w' => ∃ ao' cap', e = .returned (.slice ao' (n + (Lib.uvarint x).length) cap') ∧ w'.ownsRow B 5 1 (.slice ao' (n + (Lib.uvarint x).length) cap') (n + (Lib.uvarint x).length) (xs ++ Lib.byteCells (Lib.uvarint x)) ∧ Fr B none w w' := by
  obtain ⟨i0, hi, hz0, hz1, hz2⟩ := info_parts info5
  have hlen := Lib.uvarint_length64 hx
  go_enter Try.func36, Try.ntmps36
  go_wp2
  go_loopw [0, 1] (fun vb vx wr => ∃ (y : Nat) (pre : List UInt8) (ao1 : Option Addr) (cap1 : Nat), vx = .int .u64 y ∧ y ≤ x ∧ Lib.uvarint x = pre ++ Lib.uvarint y ∧ vb = .slice ao1 (n + pre.length) cap1 ∧ wr.ownsRow B 5 1 (.slice ao1 (n + pre.length) cap1) (n + pre.length) (xs ++ Lib.byteCells pre) ∧ Fr B none w wr)
    (fun _ vx _ => (intOf vx).toNat)
  case atStart => exact ⟨x, [], ao, cap, rfl, Nat.le_refl _, rfl, rfl, by simpa [Lib.byteCells] using hown, Fr.refl _ _ _⟩
  case round =>
    obtain ⟨y, pre, ao1, cap1, rfl, hy, hsplit, rfl, hown1, hnx⟩ := hrel
    have hpl : pre.length + (Lib.uvarint y).length ≤ 10 := by
      have h2 := congrArg List.length hsplit
      rw [List.length_append] at h2
      omega
    have hyp := Lib.uvarint_pos y
    have HS := hid hsplit
    clear hsplit hown
    by_cases h128 : 128 ≤ y
    · have hor : bits .or .u8 ((y : Int) % 256) 128 = ((y % 128 + 128 : Nat) : Int) := by
        rw [Lib.u8_or128_any _ (by omega) (by omega)]
        omega
      go_wp2_with (at_builtin; refine wpList_append_own _ rfl _ _ 39 rfl B 5 i0 (.int .u8 0) 1 1 Try.underlying39 hi hz0 hz1 hz2 rfl (by decide) _ _ _ rfl (hown1.alloc _) ⟨wr.heap.size, 0, none⟩ 1 1 [Value.int .u8 ((y % 128 + 128 : Nat) : Int)] rfl rfl ?c1 ?c2 ?c3 ?c4 ?c5 ?_)
      case c1 =>
        intro j u hj
        match j, hj with
        | 0, hj => simp at hj; subst hj; simp [Addr.add]
      case c2 => intro u hu; simp at hu; subst hu; rfl
      case c3 => unfold maxLen; omega
      case c4 => omega
      case c5 => have := hnx.1.size; simp; omega
      intro v' w1 hown' hgrow _
      have hsz := hnx.1.size
      have hnx1 : Fr B none w w1 := (hnx.alloc (by omega) _).grown hgrow (hown1.alloc _) (by simp; omega)
      obtain ⟨ao2, cap2, hv2⟩ := owns_slice hown'
      rw [hv2] at hown' ⊢
      clear hgrow hv2
      go_wp2
      go_roundw
      case rel =>
        have ec : ((y % 128 + 128 : Nat) : Int) = (y : Int) % 128 + 128 := by omega
        have el : (pre ++ [(y % 128 + 128).toUInt8]).length = pre.length + 1 := by simp
        refine ⟨y / 128, pre ++ [(y % 128 + 128).toUInt8], ao2, cap2, by go_num, by omega, by rw [HS.out, Lib.uvarint_big h128]; simp, by rw [el]; rfl, ?_, hnx1⟩
        rw [Lib.byteCells_snoc pre (by omega), el, ← Nat.add_assoc, ec]
        exact hown'
      case measure => simp [intOf]; omega
    · have hsm : Lib.uvarint y = [y.toUInt8] := Lib.uvarint_small (by omega)
      have HSM := hid hsm
      clear hsm
      go_wp2_with (at_builtin; refine wpList_append_own _ rfl _ _ 39 rfl B 5 i0 (.int .u8 0) 1 1 Try.underlying39 hi hz0 hz1 hz2 rfl (by decide) _ _ _ rfl (hown1.alloc _) ⟨wr.heap.size, 0, none⟩ 1 1 [Value.int .u8 (y : Int)] rfl rfl ?c1 ?c2 ?c3 ?c4 ?c5 ?_)
      case c1 =>
        intro j u hj
        match j, hj with
        | 0, hj => simp at hj; subst hj; simp [Addr.add]
      case c2 => intro u hu; simp at hu; subst hu; rfl
      case c3 => unfold maxLen; omega
      case c4 => omega
      case c5 => have := hnx.1.size; simp; omega
      intro v' w1 hown' hgrow _
      have hsz := hnx.1.size
      have hnx1 : Fr B none w w1 := (hnx.alloc (by omega) _).grown hgrow (hown1.alloc _) (by simp; omega)
      obtain ⟨ao2, cap2, hv2⟩ := owns_slice hown'
      rw [hv2] at hown' ⊢
      clear hgrow hv2
      go_wp2
      go_ret
      have el : (Lib.uvarint x).length = pre.length + 1 := by rw [HS.out, HSM.out]; simp
      refine ⟨ao2, cap2, by rw [el]; rfl, ?_, hnx1⟩
      rw [el, HS.out, HSM.out, Lib.byteCells_snoc pre (by omega), ← Nat.add_assoc]
      exact hown'

end Go.Proofs.Qxb6618748a
