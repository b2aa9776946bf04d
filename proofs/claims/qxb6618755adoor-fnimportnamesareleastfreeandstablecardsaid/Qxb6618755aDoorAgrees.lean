/-
  Seat b6618755aD: FnImportAgreesWithLocal.
-/
import Derived.Test.Qxb6618755aDoorHonour
import Derived.Test.Qxb6618755aDoorBase
namespace Go.Proofs.Qxb6618755aDoor
open Go.RowKit
set_option linter.unusedVariables false

theorem impName_again (S : List ByteArray) (I : List (ByteArray × ByteArray)) (p : ByteArray) : impName S (imp S I p) p = impName S I p := by
  unfold impName
  rw [find_imp]
  rfl

set_option maxHeartbeats 16000000 in
set_option maxRecDepth 100000 in
theorem law5 (a1 a2 : Option Addr) (n1 c1 n2 c2 : Nat) (D ps : List ByteArray) (p0 : ByteArray) (w : World) (h1 : StrsAt w w.heap.size a1 n1 D) (h2 : StrsAt w w.heap.size a2 n2 ps) (hs : p0.size ≤ 9223372036854775807) (htab : Tab w.heap.size w) :
    Calls Tryd.prog 5 #[.slice a1 n1 c1, .slice a2 n2 c2, .string p0] w fun e w' => e = .returned (.bool true) ∧ Below w.heap.size w w' := by
  have H1 := hid h1
  have H2 := hid h2
  have HT := hid htab
  have hn1 := h1.2.1
  have hn2 := h2.2.1
  clear h1 h2 htab
  have hm := make25
  have hm2 := make32
  go_enter Tryd.func5, Tryd.ntmps5
  go_wp2_with fail
  refine (zz19 a1 a2 n1 c1 n2 c2 w.heap.size D ps p0 w H1.out H2.out hs).mono ?_
  rintro e w0 ⟨⟨x, rfl, hx⟩, rfl⟩
  cases x with
  | false =>
    go_wp2_with fail
    go_ret
    exact ⟨rfl, Below.refl _ _⟩
  | true =>
  have HX := hid (hx rfl)
  clear hx
  by_cases d1 : n1 ≤ 4096
  case neg => go_wp2_with fail; go_ret; exact ⟨rfl, Below.refl _ _⟩
  by_cases d2 : n2 ≤ 1024
  case neg => go_wp2_with fail; go_ret; exact ⟨rfl, Below.refl _ _⟩
  by_cases d3 : p0.size ≤ 1048576
  case neg => go_wp2_with fail; go_ret; exact ⟨rfl, Below.refl _ _⟩
  go_wp2_with fail
  refine (tooBig a1 a2 n1 c1 n2 c2 w.heap.size D ps p0.size w H1.out H2.out HX.out.1 HX.out.2 d3).mono ?_
  rintro e w0 ⟨⟨x, rfl, _⟩, rfl⟩
  cases x with
  | true =>
    go_wp2_with fail
    go_ret
    exact ⟨rfl, Below.refl _ _⟩
  | false =>
  go_wp2_with fail
  refine (set_any a1 n1 c1 w.heap.size D w H1.out HX.out.1 (by omega) (Nat.le_refl _)).mono ?_
  rintro e w1 ⟨bd, rfl, hS1, hT1, hbd⟩
  have hsl : (toSet D).length ≤ 4096 := Nat.le_trans (toSet_len D) (by rw [H1.out.1]; exact d1)
  obtain ⟨S, eS⟩ : ∃ S, S = toSet D := ⟨_, rfl⟩
  rw [← eS] at hS1 hsl
  clear eS
  have HS1 := hid hS1
  clear hS1
  go_wp2_with fail
  refine (newFile_any w1 w.heap.size bd S (HT.out.on hT1.toBelow) hT1.size hbd HS1.out).mono ?_
  rintro e w2 ⟨L, rfl, hLd, hF2, hT2, hbi, hbu⟩
  subst hLd
  have HF2 := hid hF2
  have hB2 : w.heap.size ≤ w2.heap.size := Nat.le_trans hT1.size hT2.size
  clear hF2
  go_wp2_with fail
  obtain ⟨w3, e3⟩ : ∃ w3, w3 = w2.alloc (.map #[] 0) := ⟨_, rfl⟩
  obtain ⟨w4, e4⟩ : ∃ w4, w4 = w3.alloc (.map #[] 0) := ⟨_, rfl⟩
  have s3 : w3.heap.size = w2.heap.size + 1 := by rw [e3]; simp
  have s4 : w4.heap.size = w2.heap.size + 1 + 1 := by rw [e4, World.size_alloc, s3]
  have t3 : Turn [] w2 w3 := by rw [e3]; exact (Turn.refl _ _).alloc _
  have t4 : Turn [] w3 w4 := by rw [e4]; exact (Turn.refl _ _).alloc _
  have m3 : DictAt w3 w2.heap.size [] := by rw [e3]; exact DictAt.made w2
  have m4 : SetAt w4 (w2.heap.size + 1) [] := by rw [e4, ← s3]; exact SetAt.made w3
  have m34 : DictAt w4 w2.heap.size [] := m3.block (t4.block _ (by omega) (by simp))
  have HF4 := hid (HF2.out.on (t3.trans t4) hB2)
  have HA1 := hid (apart_new HF2.out (Nat.le_refl _))
  have HA2 := hid (apart_new HF2.out (show w2.heap.size ≤ w2.heap.size + 1 by omega))
  have T4 : Turn [] w w4 := hT1.trans (hT2.trans (t3.trans t4))
  rw [← e3, ← e4]
  clear e3 e4 m3 t3 t4 hT1 hT2 HF2
  go_loopw [11] (fun vi wr => ∃ k : Nat, k ≤ n2 ∧ vi = .int .i64 k ∧ FileAt w.heap.size wr L S (impAll S (ps.take k)) ∧ DictAt wr w2.heap.size (impAll S (ps.take k)) ∧ SetAt wr (w2.heap.size + 1) (names (impAll S (ps.take k))) ∧ Turn [] w wr) (fun vi _ => n2 - (intOf vi).toNat)
  case atStart => exact ⟨0, Nat.zero_le _, rfl, HF4.out, m34, m4, T4⟩
  case round =>
    obtain ⟨k, hk, rfl, hFr, hTk, hSn, hTr⟩ := hrel
    have hIl : (impAll S (ps.take k)).length ≤ 1024 := by
      have := impAll_len S (ps.take k)
      rw [List.length_take] at this
      omega
    have hBr : w.heap.size ≤ wr.heap.size := hTr.size
    by_cases hlt : k < n2
    · obtain ⟨b, off, rfl, hb, hcell⟩ := H2.out.2.2.2 k hlt
      have hkl : k < ps.length := by rw [H2.out.1]; exact hlt
      have hxs := HX.out.2 _ (getD_mem (xs := ps) (i := k) hkl)
      have hst := impAll_snoc S ps k hkl
      have hcell' := (hTr.cell (p := ⟨b, off + k, none⟩) (by show b < _; omega) (by simp)).trans hcell
      obtain ⟨p, ep⟩ : ∃ p, p = ps.getD k ByteArray.empty := ⟨_, rfl⟩
      obtain ⟨I, eI⟩ : ∃ I, I = impAll S (ps.take k) := ⟨_, rfl⟩
      rw [← ep] at hcell' hxs hst
      rw [← eI] at hFr hTk hSn hIl hst
      have HST := hid hst
      clear ep eI hst hcell
      have HFr := hid hFr
      have HTk := hid hTk
      have HSn := hid hSn
      clear hFr hTk hSn
      go_wp2_with fail
      refine (import_any w.heap.size wr L S I p HFr.out hBr hxs (by omega) (by omega)).mono ?_
      rintro e w5 ⟨rfl, hF5, hT5⟩
      have hB5 : w.heap.size ≤ w5.heap.size := Nat.le_trans hBr hT5.size
      have hTk5 : DictAt w5 w2.heap.size I := HTk.out.block (hT5.block _ HTk.out.lt (by simp; exact ⟨HA1.out.1, HA1.out.2.1⟩))
      have hSn5 : SetAt w5 (w2.heap.size + 1) (names I) := HSn.out.block (hT5.block _ HSn.out.lt (by simp; exact ⟨HA2.out.1, HA2.out.2.1⟩))
      have hT15 : Turn [] w w5 := hTr.past hT5 (by simp; exact ⟨HFr.out.own.2.2.2.1, HFr.out.own.2.2.2.2⟩)
      have hpm : p.size ≤ maxLen := by unfold maxLen; omega
      have lk := hTk5.look_ok (s := p) hpm
      have hc5 := (hT15.cell (p := ⟨b, off + k, none⟩) (by show b < _; omega) (by simp)).trans ((hTr.cell (p := ⟨b, off + k, none⟩) (by show b < _; omega) (by simp)).symm.trans hcell')
      have HF5 := hid hF5
      clear hF5
      cases hfind : find I p with
      | some n =>
        rw [hfind] at lk
        simp only [Option.getD_some, Option.isSome_some] at lk
        have hio := (imp_old (S := S) hfind).1
        rw [hio] at HST HF5
        clear hfind hio
        go_wp2_with fail
        go_round
        case rel => exact ⟨k + 1, by omega, by go_num, by rw [HST.out]; exact HF5.out, by rw [HST.out]; exact hTk5, by rw [HST.out]; exact hSn5, hT15⟩
        case measure => simp [intOf]; omega
      | none =>
        rw [hfind] at lk
        simp only [Option.getD_none, Option.isSome_none] at lk
        have hnf : impName S I p ∉ names I := by
          rw [(imp_new hfind).2]
          exact fun h => loc_free (pb p) (S ++ names I) (List.mem_append_right _ h)
        have hnsz := impName_size S I p hfind (by omega) (by omega)
        have hne := (imp_new (S := S) hfind).1
        rw [← (imp_new hfind).2] at hne
        obtain ⟨n, en⟩ : ∃ n, n = impName S I p := ⟨_, rfl⟩
        rw [← en] at hnf hnsz hne ⊢
        rw [hne] at HST HF5
        have hnm : n.size ≤ maxLen := by unfold maxLen; omega
        obtain ⟨w6, r6, m6, g6⟩ := hTk5.put (s := p) (v := n) hpm hnm (by unfold maxLen; omega) hfind
        have T6 := Turn.of_grown g6
        have hSn6 : SetAt w6 (w2.heap.size + 1) (names I) := hSn5.block (T6.block _ hSn5.lt (by simp))
        obtain ⟨w7, r7, m7, g7⟩ := hSn6.put (s := n) hnm (by rw [names_len]; unfold maxLen; omega)
        have T7 := Turn.of_grown g7
        have hTk7 := m6.block (T7.block _ m6.lt (by simp))
        have F6 := HF5.out.turn1 g6 hB5 (by omega) HA1.out
        have F7 := F6.turn1 g7 (Nat.le_trans hB5 g6.size) (by omega) HA2.out
        have hT17 : Turn [] w w7 := (hT15.past T6 (by simp; omega)).past T7 (by simp; omega)
        rw [add_new hnf, ← names_snoc I p n] at m7
        have HF7 := hid F7
        have HS7 := hid hTk7
        have HM7 := hid m7
        clear en hne hfind hnf F6 F7 hTk7 m7 m6 hSn6
        go_wp2_with fail
        go_round
        case rel => exact ⟨k + 1, by omega, by go_num, by rw [HST.out]; exact HF7.out, by rw [HST.out]; exact HS7.out, by rw [HST.out]; exact HM7.out, hT17⟩
        case measure => simp [intOf]; omega
    · obtain ⟨I, eI⟩ : ∃ I, I = impAll S (ps.take k) := ⟨_, rfl⟩
      rw [← eI] at hFr hTk hSn hIl
      have lk := hTk.look_ok (s := p0) (by unfold maxLen; omega)
      have HFr := hid hFr
      have HSn := hid hSn
      clear eI hFr hTk hSn
      have hps := pb_size p0
      go_wp2_with fail
      refine (base_any p0 d3 wr).mono ?_
      rintro e w5 ⟨rfl, rfl⟩
      have HL1 := hid (local_any w.heap.size wr L S I (pb p0) HFr.out hBr (by omega) (by omega) (by omega))
      obtain ⟨b, eb⟩ : ∃ b, b = pb p0 := ⟨_, rfl⟩
      rw [← eb] at HL1 hps ⊢
      have HB := hid eb
      clear eb
      cases hfind : find I p0 with
      | some o =>
        rw [hfind] at lk
        simp only [Option.getD_some, Option.isSome_some] at lk
        have hio := imp_old (S := S) hfind
        have HIO := hid hio
        clear hfind hio
        go_wp2_with fail
        refine HL1.out.mono ?_
        rintro e w6 ⟨rfl, hT6⟩
        have hB6 : w.heap.size ≤ w6.heap.size := Nat.le_trans hBr hT6.size
        have F6 := hid (HFr.out.on hT6 hBr)
        have hI6 := import_any w.heap.size w6 L S I p0 F6.out hB6 d3 (by omega) (by omega)
        rw [HIO.out.1, HIO.out.2] at hI6
        obtain ⟨pre, epre⟩ : ∃ pre, pre = loc b (S ++ names I) := ⟨_, rfl⟩
        rw [← epre]
        have HPre := hid epre
        have HI6 := hid hI6
        clear epre hI6
        go_wp2_with fail
        refine HI6.out.mono ?_
        rintro e w7 ⟨rfl, hF7, hT7⟩
        have hB7 : w.heap.size ≤ w7.heap.size := Nat.le_trans hB6 hT7.size
        have F7 := hid hF7
        have hL7 := local_any w.heap.size w7 L S I b hF7 hB7 (by omega) (by omega) (by omega)
        rw [← HPre.out] at hL7
        have HL7 := hid hL7
        clear hL7 hF7
        go_wp2_with fail
        refine HL7.out.mono ?_
        rintro e w8 ⟨rfl, hT8⟩
        have hB8 : w.heap.size ≤ w8.heap.size := Nat.le_trans hB7 hT8.size
        have hI8 := import_any w.heap.size w8 L S I p0 (F7.out.on hT8 hB7) hB8 d3 (by omega) (by omega)
        rw [HIO.out.1, HIO.out.2] at hI8
        have HI8 := hid hI8
        clear hI8
        go_wp2_with fail
        refine HI8.out.mono ?_
        rintro e w9 ⟨rfl, hF9, hT9⟩
        have hXB : ∀ x ∈ [L.bi, L.bu], w.heap.size ≤ x := by simp; exact ⟨HFr.out.own.2.2.2.1, HFr.out.own.2.2.2.2⟩
        have hfin : Below w.heap.size w w9 := ((((hTr.trans hT6).past hT7 hXB).trans hT8).past hT9 hXB).toBelow
        have HFin := hid hfin
        clear hfin hF9
        go_wp2_with fail
        go_ret
        exact ⟨rfl, HFin.out⟩
      | none =>
        rw [hfind] at lk
        simp only [Option.getD_none, Option.isSome_none] at lk
        have hio := imp_new (S := S) hfind
        have hag := impName_again S I p0
        have hmem := impName_mem S I p0
        rw [← HB.out] at hio
        obtain ⟨I2, eI2⟩ : ∃ I2, I2 = imp S I p0 := ⟨_, rfl⟩
        have hl2 := imp_len S I p0
        rw [← eI2] at hag hmem hl2
        rw [hio.2] at hag hmem
        have HIO := hid hio
        have HE2 := hid eI2
        have HAg := hid hag
        have HMm := hid hmem
        clear hfind hio eI2 hag hmem
        go_wp2_with fail
        refine HL1.out.mono ?_
        rintro e w6 ⟨rfl, hT6⟩
        have hB6 : w.heap.size ≤ w6.heap.size := Nat.le_trans hBr hT6.size
        have F6 := hid (HFr.out.on hT6 hBr)
        have hI6 := import_any w.heap.size w6 L S I p0 F6.out hB6 d3 (by omega) (by omega)
        rw [← HE2.out, HIO.out.2] at hI6
        have hns := loc_size b (S ++ names I) (by rw [List.length_append, names_len]; omega)
        have K6 := hid (HSn.out.block (hT6.block _ HSn.out.lt (by simp)))
        obtain ⟨n, en⟩ : ∃ n, n = loc b (S ++ names I) := ⟨_, rfl⟩
        rw [← en] at hI6 HAg HMm hns ⊢
        have HN := hid en
        have HI6 := hid hI6
        clear en hI6
        go_wp2_with fail
        refine HI6.out.mono ?_
        rintro e w7 ⟨rfl, hF7, hT7⟩
        have hB7 : w.heap.size ≤ w7.heap.size := Nat.le_trans hB6 hT7.size
        have F7 := hid hF7
        have HL7 := hid (local_any w.heap.size w7 L S I2 b hF7 hB7 (by omega) (by omega) (by omega))
        have hpo := loc_free b (S ++ names I2)
        have K7 : Hid (SetAt w7 (w2.heap.size + 1) (names I)) := K6.out.block (hT7.block _ K6.out.lt (by simp; exact ⟨HA2.out.1, HA2.out.2.1⟩))
        obtain ⟨post, epo⟩ : ∃ post, post = loc b (S ++ names I2) := ⟨_, rfl⟩
        rw [← epo] at HL7 hpo
        have hpn : post ≠ n := by
          rintro rfl
          exact hpo (List.mem_append_right _ HMm.out)
        have hpn1 : ¬ post.toList = n.toList := str_ne hpn
        have hpn2 : (post.toList == n.toList) = false := beq_eq_false_iff_ne.2 hpn1
        clear hF7 epo hpo hpn
        go_wp2_with fail
        refine HL7.out.mono ?_
        rintro e w8 ⟨rfl, hT8⟩
        have hB8 : w.heap.size ≤ w8.heap.size := Nat.le_trans hB7 hT8.size
        have F8 := hid (F7.out.on hT8 hB7)
        have K8 : Hid (SetAt w8 (w2.heap.size + 1) (names I)) := K7.out.block (hT8.block _ K7.out.lt (by simp))
        have hI8 := import_any w.heap.size w8 L S I2 p0 F8.out hB8 d3 (by omega) (by omega)
        rw [HAg.out] at hI8
        have HI8 := hid hI8
        clear hI8
        go_wp2_with fail
        refine HI8.out.mono ?_
        rintro e w9 ⟨rfl, hF9, hT9⟩
        have hXB : ∀ x ∈ [L.bi, L.bu], w.heap.size ≤ x := by simp; exact ⟨HFr.out.own.2.2.2.1, HFr.out.own.2.2.2.2⟩
        have T9 := hid ((((hTr.trans hT6).past hT7 hXB).trans hT8).past hT9 hXB)
        have K9 : Hid (SetAt w9 (w2.heap.size + 1) (names I)) := K8.out.block (hT9.block _ K8.out.lt (by simp; exact ⟨HA2.out.1, HA2.out.2.1⟩))
        have hLe := least_any w9 L.bd (.map (some (w2.heap.size + 1))) S (names I) b hF9.decl (.inr ⟨_, rfl, K9.out⟩) (by omega) (by omega) (by rw [names_len]; omega)
        rw [← HN.out] at hLe
        have HLe := hid hLe
        clear hLe hF9
        go_wp2_with fail
        refine HLe.out.mono ?_
        rintro e w10 ⟨rfl, hT10⟩
        have HFin := hid (T9.out.trans hT10).toBelow
        go_wp2_with fail
        go_ret
        exact ⟨rfl, HFin.out⟩

end Go.Proofs.Qxb6618755aDoor
