/-
  Seat b6618755aD: FnLocalIsIdempotent.
-/
import Derived.Test.Qxb6618755aDoorImport
namespace Go.Proofs.Qxb6618755aDoor
open Go.RowKit
set_option linter.unusedVariables false

/-- The imports behind the first k paths. -/
noncomputable def impAll (S : List ByteArray) (ps : List ByteArray) : List (ByteArray × ByteArray) := ps.foldl (imp S) []
theorem impAll_snoc (S ps : List ByteArray) (k : Nat) (h : k < ps.length) : impAll S (ps.take (k + 1)) = imp S (impAll S (ps.take k)) (ps.getD k ByteArray.empty) := by
  rw [List.take_succ_eq_append_getElem h, impAll, List.foldl_append, List.getD_eq_getElem?_getD, List.getElem?_eq_getElem h]
  rfl
theorem impFold_len (S ps : List ByteArray) (I : List (ByteArray × ByteArray)) : (ps.foldl (imp S) I).length ≤ I.length + ps.length := by
  induction ps generalizing I with
  | nil => simp
  | cons x ps ih =>
    have h1 := ih (imp S I x)
    have h2 := imp_len S I x
    simp
    omega
theorem impAll_len (S ps : List ByteArray) : (impAll S ps).length ≤ ps.length := by
  have := impFold_len S ps []
  simpa [impAll] using this
theorem paths_len (I : List (ByteArray × ByteArray)) : (paths I).length = I.length := by simp [paths]
theorem impName_size (S : List ByteArray) (I : List (ByteArray × ByteArray)) (p : ByteArray) (hf : find I p = none) (hS : S.length ≤ 5000) (hI : I.length ≤ 5000) : (impName S I p).size ≤ p.size + 10 := by
  rw [(imp_new hf).2]
  have h1 := loc_size (pb p) (S ++ names I) (by rw [List.length_append, names_len]; omega)
  have h2 := pb_size p
  omega

/-- Two more maps of the law's own, apart from the file's. -/
def Apart2 (L : Lay) (b : Nat) : Prop := b ≠ L.bi ∧ b ≠ L.bu ∧ b ≠ L.fb ∧ b ≠ L.cb ∧ b ≠ L.bd

theorem apart_new {B : Nat} {w : World} {L : Lay} {S : List ByteArray} {I : List (ByteArray × ByteArray)} (h : FileAt B w L S I) {b : Nat} (hb : w.heap.size ≤ b) : Apart2 L b := by
  obtain ⟨l1, l2, l3, l4, l5⟩ := h.lt
  exact ⟨by omega, by omega, by omega, by omega, by omega⟩

theorem FileAt.turn1 {B : Nat} {w w' : World} {L : Lay} {S : List ByteArray} {I : List (ByteArray × ByteArray)} {b : Nat} (h : FileAt B w L S I) (hg : w.grownBy w' (some b)) (hB : B ≤ w.heap.size) (hb : B ≤ b) (ha : Apart2 L b) : FileAt B w' L S I := by
  obtain ⟨h1, h2, h3, h4, h5⟩ := ha
  exact h.turn (Turn.of_grown hg) hB (by simpa using hb) ⟨by simpa using h3.symm, by simpa using h4.symm, by simpa using h5.symm, by simpa using h1.symm, by simpa using h2.symm⟩

theorem Turn.past {X : List Nat} {a w w' : World} (h : Turn [] a w) (k : Turn X w w') (hX : ∀ x ∈ X, a.heap.size ≤ x) : Turn [] a w' :=
  ⟨k.os.trans h.os, k.tape.trans h.tape, k.output.trans h.output, Nat.le_trans h.size k.size, fun i hi _ => (k.block i (Nat.lt_of_lt_of_le hi h.size) (fun hx => by have := hX i hx; omega)).trans (h.block i hi (by simp))⟩

theorem str_ne {a b : ByteArray} (h : a ≠ b) : ¬ a.toList = b.toList := by
  rw [Lib.toList_data, Lib.toList_data]
  exact fun e => h (bytes_eq e)

set_option maxHeartbeats 16000000 in
set_option maxRecDepth 100000 in
theorem law6 (a1 a2 : Option Addr) (n1 c1 n2 c2 : Nat) (D ps : List ByteArray) (base : ByteArray) (w : World) (h1 : StrsAt w w.heap.size a1 n1 D) (h2 : StrsAt w w.heap.size a2 n2 ps) (hs : base.size ≤ 9223372036854775807) (htab : Tab w.heap.size w) :
    Calls Tryd.prog 6 #[.slice a1 n1 c1, .slice a2 n2 c2, .string base] w fun e w' => e = .returned (.bool true) ∧ Below w.heap.size w w' := by
  have H1 := hid h1
  have H2 := hid h2
  have HT := hid htab
  have hn1 := h1.2.1
  have hn2 := h2.2.1
  clear h1 h2 htab
  have hm := make25
  go_enter Tryd.func6, Tryd.ntmps6
  go_wp2_with fail
  refine (zz20 a1 a2 n1 c1 n2 c2 w.heap.size D ps base w H1.out H2.out hs).mono ?_
  rintro e w0 ⟨⟨x, rfl, hx⟩, rfl⟩
  cases x with
  | false =>
    go_wp2_with fail
    go_ret
    exact ⟨rfl, Below.refl _ _⟩
  | true =>
  have HX := hid (hx rfl)
  clear hx
  by_cases d1 : n1 ≤ 4096
  case neg => go_wp2_with fail; go_ret; exact ⟨rfl, Below.refl _ _⟩
  by_cases d2 : n2 ≤ 1024
  case neg => go_wp2_with fail; go_ret; exact ⟨rfl, Below.refl _ _⟩
  by_cases d3 : base.size ≤ 1048576
  case neg => go_wp2_with fail; go_ret; exact ⟨rfl, Below.refl _ _⟩
  go_wp2_with fail
  refine (tooBig a1 a2 n1 c1 n2 c2 w.heap.size D ps base.size w H1.out H2.out HX.out.1 HX.out.2 d3).mono ?_
  rintro e w0 ⟨⟨x, rfl, _⟩, rfl⟩
  cases x with
  | true =>
    go_wp2_with fail
    go_ret
    exact ⟨rfl, Below.refl _ _⟩
  | false =>
  go_wp2_with fail
  refine (set_any a1 n1 c1 w.heap.size D w H1.out HX.out.1 (by omega) (Nat.le_refl _)).mono ?_
  rintro e w1 ⟨bd, rfl, hS1, hT1, hbd⟩
  have hsl : (toSet D).length ≤ 4096 := Nat.le_trans (toSet_len D) (by rw [H1.out.1]; exact d1)
  obtain ⟨S, eS⟩ : ∃ S, S = toSet D := ⟨_, rfl⟩
  rw [← eS] at hS1 hsl
  clear eS
  have HS1 := hid hS1
  clear hS1
  go_wp2_with fail
  refine (newFile_any w1 w.heap.size bd S (HT.out.on hT1.toBelow) hT1.size hbd HS1.out).mono ?_
  rintro e w2 ⟨L, rfl, hLd, hF2, hT2, hbi, hbu⟩
  subst hLd
  have HF2 := hid hF2
  have hB2 : w.heap.size ≤ w2.heap.size := Nat.le_trans hT1.size hT2.size
  clear hF2
  go_wp2_with fail
  obtain ⟨w3, e3⟩ : ∃ w3, w3 = w2.alloc (.map #[] 0) := ⟨_, rfl⟩
  obtain ⟨w4, e4⟩ : ∃ w4, w4 = w3.alloc (.map #[] 0) := ⟨_, rfl⟩
  have s3 : w3.heap.size = w2.heap.size + 1 := by rw [e3]; simp
  have s4 : w4.heap.size = w2.heap.size + 1 + 1 := by rw [e4, World.size_alloc, s3]
  have t3 : Turn [] w2 w3 := by rw [e3]; exact (Turn.refl _ _).alloc _
  have t4 : Turn [] w3 w4 := by rw [e4]; exact (Turn.refl _ _).alloc _
  have m3 : SetAt w3 w2.heap.size [] := by rw [e3]; exact SetAt.made w2
  have m4 : SetAt w4 (w2.heap.size + 1) [] := by rw [e4, ← s3]; exact SetAt.made w3
  have m34 : SetAt w4 w2.heap.size [] := m3.block (t4.block _ (by omega) (by simp))
  have HF4 := hid (HF2.out.on (t3.trans t4) hB2)
  have HA1 := hid (apart_new HF2.out (Nat.le_refl _))
  have HA2 := hid (apart_new HF2.out (show w2.heap.size ≤ w2.heap.size + 1 by omega))
  have T4 : Turn [] w w4 := hT1.trans (hT2.trans (t3.trans t4))
  rw [← e3, ← e4]
  clear e3 e4 m3 t3 t4 hT1 hT2 HF2
  go_loopw [11] (fun vi wr => ∃ k : Nat, k ≤ n2 ∧ vi = .int .i64 k ∧ FileAt w.heap.size wr L S (impAll S (ps.take k)) ∧ SetAt wr w2.heap.size (names (impAll S (ps.take k))) ∧ SetAt wr (w2.heap.size + 1) (paths (impAll S (ps.take k))) ∧ Turn [] w wr) (fun vi _ => n2 - (intOf vi).toNat)
  case atStart => exact ⟨0, Nat.zero_le _, rfl, HF4.out, m34, m4, T4⟩
  case round =>
    obtain ⟨k, hk, rfl, hFr, hTk, hSn, hTr⟩ := hrel
    have hIl : (impAll S (ps.take k)).length ≤ 1024 := by
      have := impAll_len S (ps.take k)
      rw [List.length_take] at this
      omega
    have hBr : w.heap.size ≤ wr.heap.size := hTr.size
    by_cases hlt : k < n2
    · obtain ⟨b, off, rfl, hb, hcell⟩ := H2.out.2.2.2 k hlt
      have hkl : k < ps.length := by rw [H2.out.1]; exact hlt
      have hxs := HX.out.2 _ (getD_mem (xs := ps) (i := k) hkl)
      have hst := impAll_snoc S ps k hkl
      have hcell' := (hTr.cell (p := ⟨b, off + k, none⟩) (by show b < _; omega) (by simp)).trans hcell
      obtain ⟨p, ep⟩ : ∃ p, p = ps.getD k ByteArray.empty := ⟨_, rfl⟩
      obtain ⟨I, eI⟩ : ∃ I, I = impAll S (ps.take k) := ⟨_, rfl⟩
      rw [← ep] at hcell' hxs hst
      rw [← eI] at hFr hTk hSn hIl hst
      have HST := hid hst
      clear ep eI hst hcell
      have HFr := hid hFr
      have HTk := hid hTk
      have HSn := hid hSn
      clear hFr hTk hSn
      go_wp2_with fail
      refine (import_any w.heap.size wr L S I p HFr.out hBr hxs (by omega) (by omega)).mono ?_
      rintro e w5 ⟨rfl, hF5, hT5⟩
      have hB5 : w.heap.size ≤ w5.heap.size := Nat.le_trans hBr hT5.size
      have hTk5 : SetAt w5 w2.heap.size (names I) := HTk.out.block (hT5.block _ HTk.out.lt (by simp; exact ⟨HA1.out.1, HA1.out.2.1⟩))
      have hSn5 : SetAt w5 (w2.heap.size + 1) (paths I) := HSn.out.block (hT5.block _ HSn.out.lt (by simp; exact ⟨HA2.out.1, HA2.out.2.1⟩))
      have hT15 : Turn [] w w5 := hTr.past hT5 (by simp; exact ⟨HFr.out.own.2.2.2.1, HFr.out.own.2.2.2.2⟩)
      have hpm : p.size ≤ maxLen := by unfold maxLen; omega
      have lk := hSn5.look (s := p) hpm
      have hc5 := (hT15.cell (p := ⟨b, off + k, none⟩) (by show b < _; omega) (by simp)).trans ((hTr.cell (p := ⟨b, off + k, none⟩) (by show b < _; omega) (by simp)).symm.trans hcell')
      have HF5 := hid hF5
      clear hF5
      cases hfind : find I p with
      | some n =>
        have hmem : p ∈ paths I := by
          by_cases hm : p ∈ paths I
          · exact hm
          · rw [find_none.2 hm] at hfind; cases hfind
        rw [decide_eq_true hmem] at lk
        have hio := (imp_old (S := S) hfind).1
        rw [hio] at HST HF5
        clear hfind hmem hio
        go_wp2_with fail
        go_round
        case rel => exact ⟨k + 1, by omega, by go_num, by rw [HST.out]; exact HF5.out, by rw [HST.out]; exact hTk5, by rw [HST.out]; exact hSn5, hT15⟩
        case measure => simp [intOf]; omega
      | none =>
        have hnm : p ∉ paths I := find_none.1 hfind
        rw [decide_eq_false hnm] at lk
        have hnf : impName S I p ∉ names I := by
          rw [(imp_new hfind).2]
          exact fun h => loc_free (pb p) (S ++ names I) (List.mem_append_right _ h)
        have hnsz := impName_size S I p hfind (by omega) (by omega)
        have hne := (imp_new (S := S) hfind).1
        rw [← (imp_new hfind).2] at hne
        obtain ⟨n, en⟩ : ∃ n, n = impName S I p := ⟨_, rfl⟩
        rw [← en] at hnf hnsz hne ⊢
        rw [hne] at HST HF5
        obtain ⟨w6, r6, m6, g6⟩ := hSn5.put (s := p) hpm (by rw [paths_len]; unfold maxLen; omega)
        have T6 := Turn.of_grown g6
        have hTk6 : SetAt w6 w2.heap.size (names I) := hTk5.block (T6.block _ hTk5.lt (by simp))
        obtain ⟨w7, r7, m7, g7⟩ := hTk6.put (s := n) (by unfold maxLen; omega) (by rw [names_len]; unfold maxLen; omega)
        have T7 := Turn.of_grown g7
        have hSn7 := m6.block (T7.block _ m6.lt (by simp))
        have F6 := HF5.out.turn1 g6 hB5 (by omega) HA2.out
        have F7 := F6.turn1 g7 (Nat.le_trans hB5 g6.size) (by omega) HA1.out
        have hT17 : Turn [] w w7 := (hT15.past T6 (by simp; omega)).past T7 (by simp; omega)
        rw [add_new hnm, ← paths_snoc I p n] at hSn7
        rw [add_new hnf, ← names_snoc I p n] at m7
        have HF7 := hid F7
        have HS7 := hid hSn7
        have HM7 := hid m7
        clear en hne hfind hnm hnf F6 F7 hSn7 m7 m6 hTk6
        go_wp2_with fail
        go_round
        case rel => exact ⟨k + 1, by omega, by go_num, by rw [HST.out]; exact HF7.out, by rw [HST.out]; exact HM7.out, by rw [HST.out]; exact HS7.out, hT17⟩
        case measure => simp [intOf]; omega
    · obtain ⟨I, eI⟩ : ∃ I, I = impAll S (ps.take k) := ⟨_, rfl⟩
      rw [← eI] at hFr hTk hSn hIl
      have HFr := hid hFr
      have HTk := hid hTk
      clear eI hFr hTk hSn
      have hlr := loc_size base (S ++ names I) (by rw [List.length_append, names_len]; omega)
      go_wp2_with fail
      refine (local_any w.heap.size wr L S I base HFr.out hBr (by omega) (by omega) (by omega)).mono ?_
      rintro e w5 ⟨rfl, hT5⟩
      have hB5 : w.heap.size ≤ w5.heap.size := Nat.le_trans hBr hT5.size
      have F5 := HFr.out.on hT5 hBr
      have K5 : SetAt w5 w2.heap.size (names I) := HTk.out.block (hT5.block _ HTk.out.lt (by simp))
      have hbm : base.size ≤ maxLen := by unfold maxLen; omega
      have l1 := F5.decl.look (s := base) hbm
      have l2 := K5.look (s := base) hbm
      have HL2 := hid (local_any w.heap.size w5 L S I (loc base (S ++ names I)) F5 hB5 (by omega) (by omega) (by omega))
      rw [loc_loc] at HL2
      have hfree := loc_free base (S ++ names I)
      have hiff := loc_eq_iff base (S ++ names I)
      obtain ⟨r, er⟩ : ∃ r, r = loc base (S ++ names I) := ⟨_, rfl⟩
      rw [← er] at HL2 hfree hiff hlr ⊢
      rw [List.mem_append] at hfree hiff
      have f1 : decide (r ∈ S) = false := decide_eq_false fun h => hfree (.inl h)
      have f2 : decide (r ∈ names I) = false := decide_eq_false fun h => hfree (.inr h)
      have HF5 := hid F5
      have HK5 := hid K5
      clear er F5 K5 hfree
      by_cases q1 : base ∈ S
      · rw [decide_eq_true q1] at l1
        have hne : ¬ r.toList = base.toList := str_ne fun e => hiff.1 e (.inl q1)
        have hne2 : (r.toList == base.toList) = false := beq_eq_false_iff_ne.2 hne
        clear hiff q1 l2
        go_wp2_with fail
        refine HL2.out.mono ?_
        rintro e w6 ⟨rfl, hT6⟩
        have hrm : r.size ≤ maxLen := by unfold maxLen; omega
        have l3 := (HF5.out.on hT6 hB5).decl.look (s := r) hrm
        have l4 := (HK5.out.block (hT6.block _ HK5.out.lt (by simp))).look (s := r) hrm
        rw [f1] at l3
        rw [f2] at l4
        go_wp2_with fail
        go_ret
        exact ⟨rfl, (hTr.trans (hT5.trans hT6)).toBelow⟩
      · rw [decide_eq_false q1] at l1
        by_cases q2 : base ∈ names I
        · rw [decide_eq_true q2] at l2
          have hne : ¬ r.toList = base.toList := str_ne fun e => hiff.1 e (.inr q2)
          have hne2 : (r.toList == base.toList) = false := beq_eq_false_iff_ne.2 hne
          clear hiff q1 q2
          go_wp2_with fail
          refine HL2.out.mono ?_
          rintro e w6 ⟨rfl, hT6⟩
          have hrm : r.size ≤ maxLen := by unfold maxLen; omega
          have l3 := (HF5.out.on hT6 hB5).decl.look (s := r) hrm
          have l4 := (HK5.out.block (hT6.block _ HK5.out.lt (by simp))).look (s := r) hrm
          rw [f1] at l3
          rw [f2] at l4
          go_wp2_with fail
          go_ret
          exact ⟨rfl, (hTr.trans (hT5.trans hT6)).toBelow⟩
        · rw [decide_eq_false q2] at l2
          obtain rfl : r = base := hiff.2 fun h => h.elim q1 q2
          clear hiff q1 q2
          go_wp2_with fail
          refine HL2.out.mono ?_
          rintro e w6 ⟨rfl, hT6⟩
          have hrm : r.size ≤ maxLen := by unfold maxLen; omega
          have l3 := (HF5.out.on hT6 hB5).decl.look (s := r) hrm
          have l4 := (HK5.out.block (hT6.block _ HK5.out.lt (by simp))).look (s := r) hrm
          rw [f1] at l3
          rw [f2] at l4
          go_wp2_with fail
          go_ret
          exact ⟨rfl, (hTr.trans (hT5.trans hT6)).toBelow⟩

end Go.Proofs.Qxb6618755aDoor
