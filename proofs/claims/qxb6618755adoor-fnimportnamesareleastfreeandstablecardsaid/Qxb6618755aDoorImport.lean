/-
  Seat b6618755aD: Import.
-/
import Derived.Test.Qxb6618755aDoorLocal
namespace Go.Proofs.Qxb6618755aDoor
open Go.RowKit
set_option linter.unusedVariables false

theorem split_len (l : List UInt8) : (Lib.Pa.split l).2.length ≤ l.length := by
  unfold Lib.Pa.split
  simp
theorem trim_len (l : List UInt8) : (Lib.Pa.trimSlashes l).length ≤ l.length := by
  have := Lib.Pa.take_trimLen l l.length (Nat.le_refl _)
  rw [List.take_length] at this
  rw [← this, List.length_take]
  exact Nat.min_le_right _ _
theorem base_len (l : List UInt8) : (Lib.Pa.base l).length ≤ l.length + 1 := by
  unfold Lib.Pa.base
  split
  · simp
  · split
    · simp
    · have h1 := split_len (Lib.Pa.trimSlashes l)
      have h2 := trim_len l
      omega
theorem pb_size (p : ByteArray) : (pb p).size ≤ p.size + 1 := by
  have h := base_len p.data.toList
  have h1 : (pb p).size = (Lib.Pa.base p.data.toList).length := Lib.Pa.size_mk _
  have h2 : p.size = p.data.toList.length := Lib.size_eq p
  omega

theorem import_file {B : Nat} {w1 w2 w3 : World} {L : Lay} {S : List ByteArray} {I : List (ByteArray × ByteArray)} {p n : ByteArray} (F1 : FileAt B w1 L S I) (hB : B ≤ w1.heap.size) (T2 : Turn [L.bi] w1 w2) (d2 : DictAt w2 L.bi (I ++ [(p, n)]))
    (g3 : w2.grownBy w3 (some L.bu)) (s3 : SetAt w3 L.bu (add (names I) n)) (hfree : n ∉ names I) : FileAt B w3 L S (I ++ [(p, n)]) ∧ Turn [L.bi, L.bu] w1 w3 := by
  have T3 := Turn.of_grown g3
  have TT : Turn [L.bi, L.bu] w1 w3 := (T2.mono (by simp)).trans (T3.mono (by simp))
  obtain ⟨l1, l2, l3, l4, l5⟩ := F1.lt
  obtain ⟨n1, n2, n3, n4, n5, n6, n7⟩ := F1.apart
  obtain ⟨o1, o2, o3, o4, o5⟩ := F1.own
  refine ⟨⟨F1.tab.on (TT.below hB (by simp; exact ⟨o4, o5⟩)), F1.own, F1.apart, (TT.cell (p := ⟨L.fb, 1, none⟩) l1 (by simp; exact ⟨n1, n2⟩)).trans F1.c1, (TT.cell (p := ⟨L.fb, 3, none⟩) l1 (by simp; exact ⟨n1, n2⟩)).trans F1.c3,
    (TT.cell (p := ⟨L.fb, 4, none⟩) l1 (by simp; exact ⟨n1, n2⟩)).trans F1.c4, (TT.cell (p := ⟨L.cb, 0, none⟩) l2 (by simp; exact ⟨n3, n4⟩)).trans F1.cc, F1.decl.block (TT.block _ l3 (by simp; exact ⟨n5, n6⟩)),
    d2.block (T3.block _ (Nat.lt_of_lt_of_le l4 T2.size) (by simp; exact n7)), ?_⟩, TT⟩
  rw [names_snoc, ← add_new hfree]
  exact s3

theorem names_len (I : List (ByteArray × ByteArray)) : (names I).length = I.length := by simp [names]

set_option maxHeartbeats 8000000 in
set_option maxRecDepth 100000 in
theorem import_any (B : Nat) (w : World) (L : Lay) (S : List ByteArray) (I : List (ByteArray × ByteArray)) (p : ByteArray) (hF : FileAt B w L S I) (hB : B ≤ w.heap.size) (hp : p.size ≤ 1048576) (hS : S.length ≤ 5000) (hI : I.length ≤ 5000) :
    Calls Tryd.prog 16 #[.pointer (some ⟨L.fb, 0, none⟩), .string p] w fun e w' => e = .returned (.string (impName S I p)) ∧ FileAt B w' L S (imp S I p) ∧ Turn [L.bi, L.bu] w w' := by
  have q3 := hF.c3
  have lk := hF.imps.look_ok (s := p) (by unfold maxLen; omega)
  have HF := hid hF
  clear hF
  cases hfind : find I p with
  | some n =>
    rw [(imp_old hfind).1, (imp_old hfind).2]
    rw [hfind] at lk
    simp only [Option.getD_some, Option.isSome_some] at lk
    clear hfind
    go_enter Tryd.func16, Tryd.ntmps16
    go_wp2
    go_ret
    exact ⟨rfl, HF.out, Turn.refl _ _⟩
  | none =>
    rw [(imp_new hfind).1, (imp_new hfind).2]
    have hlo := local_any B w L S I (pb p) HF.out hB (by have := pb_size p; omega) (by omega) (by omega)
    have hls := loc_size (pb p) (S ++ names I) (by rw [List.length_append, names_len]; omega)
    have hps := pb_size p
    have hfree : loc (pb p) (S ++ names I) ∉ names I := fun h => loc_free (pb p) (S ++ names I) (List.mem_append_right _ h)
    obtain ⟨n, en⟩ : ∃ n, n = loc (pb p) (S ++ names I) := ⟨_, rfl⟩
    rw [← en] at hlo hls hfree ⊢
    have hnl : n.size ≤ maxLen := by unfold maxLen; omega
    have hpl : p.size ≤ maxLen := by unfold maxLen; omega
    rw [hfind] at lk
    simp only [Option.getD_none, Option.isSome_none] at lk
    have HL := hid hlo
    have HN := hid hfind
    have HR := hid hfree
    clear hfind en hlo hfree
    have HP := hid (pathBase_any p w (by omega))
    go_enter Tryd.func16, Tryd.ntmps16
    go_wp2_with (first
      | (go_at_call 28; refine HP.out.mono ?_; rintro e w' ⟨rfl, rfl⟩)
      | (go_at_call 12; refine HL.out.mono ?_; rintro e w1 ⟨rfl, ht⟩
         have F1 := HF.out.on ht hB
         obtain ⟨w2, r2, d2, g2⟩ := F1.imps.put (s := p) (v := n) hpl hnl (by unfold maxLen; omega) HN.out
         have a1 := F1.apart
         have l1 := F1.lt
         have T2 := Turn.of_grown g2
         obtain ⟨w3, r3, s3, g3⟩ := (F1.used.block (T2.block _ l1.2.2.2.2 (by simp; exact fun e => a1.2.2.2.2.2.2 e.symm))).put (s := n) hnl (by rw [names_len]; unfold maxLen; omega)
         have z3 := F1.c3
         have z4 := (T2.cell (p := ⟨L.fb, 4, none⟩) l1.1 (by simp; exact a1.1)).trans F1.c4
         have HD2 := hid d2
         have HS3 := hid s3
         have HF1 := hid F1
         clear F1 d2 s3 a1 l1))
    go_ret
    obtain ⟨f3, t3⟩ := import_file HF1.out (Nat.le_trans hB ht.size) T2 HD2.out g3 HS3.out HR.out
    exact ⟨rfl, f3, (ht.mono (by simp)).trans t3⟩

end Go.Proofs.Qxb6618755aDoor
