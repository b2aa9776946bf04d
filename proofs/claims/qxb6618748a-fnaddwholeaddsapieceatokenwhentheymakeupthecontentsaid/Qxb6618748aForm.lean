/-
  Seat b6618748a: HasPrefix, CutPrefix on this law's road; TextsMakeUp and form at a piece of one token.
-/
import Derived.Test.Qxb6618748aTok
namespace Go.Proofs.Qxb6618748a
open Go.RowKit
set_option linter.unusedVariables false
attribute [local go_sem] call47 run_store_float

theorem ext_prefix (s p : ByteArray) (r : List UInt8) (h : s.data.toList = p.data.toList ++ r) : p.size ≤ s.size ∧ ((s.extract 0 p.size).toList == p.toList) = true := by
  have h1 : s.data.toList.length = s.size := toList_length s
  have h2 : p.data.toList.length = p.size := toList_length p
  have h3 := congrArg List.length h
  rw [List.length_append] at h3
  refine ⟨by omega, ?_⟩
  rw [beq_iff_eq, ByteArray.toList_eq, ByteArray.toList_eq]
  have : (s.extract 0 p.size).data.toList = (s.data.toList.drop 0).take (p.size - 0) := by
    simp [ByteArray.data_extract, Array.toList_extract, List.extract_eq_take_drop]
  rw [this, h]
  simp only [List.drop_zero, Nat.sub_zero]
  rw [← h2, List.take_left]

theorem ext_rest (s p : ByteArray) (r : List UInt8) (h : s.data.toList = p.data.toList ++ r) : (s.extract p.size s.size).data.toList = r := by
  have h1 : s.data.toList.length = s.size := toList_length s
  have h2 : p.data.toList.length = p.size := toList_length p
  have : (s.extract p.size s.size).data.toList = (s.data.toList.drop p.size).take (s.size - p.size) := by
    simp [ByteArray.data_extract, Array.toList_extract, List.extract_eq_take_drop]
  rw [this, h, ← h2, List.drop_left]
  have h3 := congrArg List.length h
  rw [List.length_append] at h3
  exact List.take_of_length_le (by omega)

theorem hasPrefix_any (s p : ByteArray) (r : List UInt8) (w : World) (h : s.data.toList = p.data.toList ++ r) (hs : s.size ≤ 1048576) :
    Calls Try.prog 49 #[.string s, .string p] w fun e w' => e = .returned (.bool true) ∧ w = w' := by
  obtain ⟨h1, h2⟩ := ext_prefix s p r h
  clear h
  go_enter Try.func49, Try.ntmps49
  go_wp2
  go_ret
  exact ⟨rfl, rfl⟩

theorem cutPrefix_same (s : ByteArray) (w : World) (hs : s.size ≤ 1048576) :
    Calls Try.prog 51 #[.string s, .string s] w fun e w' => e = .returned (.tuple #[.string ByteArray.empty, .bool true]) ∧ w = w' := by
  obtain ⟨h1, h2⟩ := ext_prefix s s [] (by simp)
  go_enter Try.func51, Try.ntmps51
  go_wp2
  go_ret2
  exact ⟨rfl, rfl⟩

/-- The four cells of a token. -/
def TokCells (w : World) (b off : Nat) (t : TokD) (ba : Option Addr) (bn bc : Nat) (ca : Option Addr) (cn cc : Nat) : Prop :=
  w.cell? ⟨b, off, none⟩ = some (.string t.tok) ∧ w.cell? ⟨b, off + 1, none⟩ = some (.float .f64 t.bits) ∧ w.cell? ⟨b, off + 2, none⟩ = some (.slice ba bn bc) ∧ w.cell? ⟨b, off + 3, none⟩ = some (.slice ca cn cc)

theorem TokCells.below {w w' : World} {P b off : Nat} {t : TokD} {ba : Option Addr} {bn bc : Nat} {ca : Option Addr} {cn cc : Nat} (h : TokCells w b off t ba bn bc ca cn cc) (hb : Below P w w') (hP : b < P) : TokCells w' b off t ba bn bc ca cn cc :=
  ⟨(hb.cell (p := ⟨b, off, none⟩) hP).trans h.1, (hb.cell (p := ⟨b, off + 1, none⟩) hP).trans h.2.1, (hb.cell (p := ⟨b, off + 2, none⟩) hP).trans h.2.2.1, (hb.cell (p := ⟨b, off + 3, none⟩) hP).trans h.2.2.2⟩

set_option maxHeartbeats 1000000 in
theorem makeUp_one (b off tc : Nat) (t : TokD) (ba : Option Addr) (bn bc : Nat) (ca : Option Addr) (cn cc : Nat) (w : World) (hT : TokCells w b off t ba bn bc ca cn cc) (hb : b < w.heap.size) (hs : t.tok.size ≤ 1048576) :
    Calls Try.prog 44 #[.slice (some ⟨b, off, none⟩) 1 tc, .string t.tok] w fun e w' => e = .returned (.bool true) ∧ Fr w.heap.size none w w' := by
  obtain ⟨c0, c1, c2, c3⟩ := hT
  go_enter Try.func44, Try.ntmps44
  go_wp2_with fail
  refine wp_loop_rounds 2 ?_
  rw [rounds_succ]
  go_wp2_with fail
  refine (cutPrefix_same t.tok _ hs).mono ?_
  rintro e w' ⟨rfl, rfl⟩
  go_wp2_with fail
  rw [rounds_succ]
  go_wp2_with fail
  go_ret
  refine ⟨rfl, ?_⟩
  exact (Fr.refl _ _ _).alloc (Nat.le_refl _) _

set_option maxHeartbeats 1000000 in
theorem form_one (b off tc : Nat) (t : TokD) (ba : Option Addr) (bn bc : Nat) (ca : Option Addr) (cn cc : Nat) (w : World) (hT : TokCells w b off t ba bn bc ca cn cc) (hb : b < w.heap.size) (hs : t.tok.size ≤ 1048576) :
    Calls Try.prog 35 #[.agg #[.string ByteArray.empty, .string t.tok, .slice (some ⟨b, off, none⟩) 1 tc]] w fun e w' => e = .returned (.int .u64 0) ∧ Fr w.heap.size none w w' := by
  have hTa := hT.below ((Below.refl w.heap.size w).alloc (Nat.le_refl _) (.cells #[.string ByteArray.empty, .string t.tok, .slice (some ⟨b, off, none⟩) 1 tc] 46)) hb
  have HT := hid hTa
  clear hT hTa
  go_enter Try.func35, Try.ntmps35
  go_wp2_with fail
  refine (makeUp_one b off tc t ba bn bc ca cn cc _ HT.out (by simp; omega) hs).mono ?_
  rintro e w1 ⟨rfl, hfr1⟩
  go_wp2_with fail
  go_ret
  exact ⟨rfl, ((Fr.refl w.heap.size none w).alloc (Nat.le_refl _) _).trans (hfr1.mono (by simp))⟩

end Go.Proofs.Qxb6618748a
