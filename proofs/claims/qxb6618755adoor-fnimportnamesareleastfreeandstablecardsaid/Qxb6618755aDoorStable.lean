/-
  Seat b6618755aD: FnImportNamesAreLeastFreeAndStable.
-/
import Derived.Test.Qxb6618755aDoorAgrees
namespace Go.Proofs.Qxb6618755aDoor
open Go.RowKit
set_option linter.unusedVariables false

theorem find_stays {S : List ByteArray} {I : List (ByteArray × ByteArray)} {p q n : ByteArray} (h : find I p = some n) : find (imp S I q) p = some n := by
  cases hq : find I q with
  | some m => rw [(imp_old hq).1]; exact h
  | none =>
    rw [(imp_new hq).1, find_snoc I q _ p hq]
    by_cases e : p = q
    · subst e; rw [hq] at h; cases h
    · rw [if_neg e]; exact h
theorem impAll_find (S ps : List ByteArray) : ∀ k, k ≤ ps.length → ∀ i, i < k → ∃ n, find (impAll S (ps.take k)) (ps.getD i ByteArray.empty) = some n
  | 0, _, i, hi => by omega
  | k + 1, hk, i, hi => by
    rw [impAll_snoc S ps k (by omega)]
    by_cases e : i = k
    · subst e
      exact ⟨_, find_imp S _ _⟩
    · obtain ⟨n, hn⟩ := impAll_find S ps k (by omega) i (by omega)
      exact ⟨n, find_stays hn⟩

theorem DictAt.val_size {w : World} {b : Nat} {I : List (ByteArray × ByteArray)} (h : DictAt w b I) {s n : ByteArray} (hs : s.size ≤ maxLen) (hf : find I s = some n) : n.size ≤ maxLen := by
  obtain ⟨D, h1, _, h3⟩ := h
  obtain ⟨v, ps, hr, hv⟩ := h1.lookup lawS Tryd.underlying32 (zero9 w) emptyElem (keyOf_s hs)
  rw [(h3 s).1, hf] at hv
  obtain ⟨x, rfl, hx, hz⟩ := elem_string_inv Tryd.underlying9 hv
  have hx1 := congrArg Prod.fst hx
  simp only [DataW.lit.injEq, Lit.string.injEq, Option.getD_some] at hx1
  rw [bytes_eq hx1]
  exact hz

set_option maxHeartbeats 16000000 in
set_option maxRecDepth 100000 in
theorem law4 (a1 a2 : Option Addr) (n1 c1 n2 c2 : Nat) (D ps : List ByteArray) (w : World) (h1 : StrsAt w w.heap.size a1 n1 D) (h2 : StrsAt w w.heap.size a2 n2 ps) (htab : Tab w.heap.size w) :
    Calls Tryd.prog 4 #[.slice a1 n1 c1, .slice a2 n2 c2] w fun e w' => e = .returned (.bool true) ∧ Below w.heap.size w w' := by
  have H1 := hid h1
  have H2 := hid h2
  have HT := hid htab
  have hn1 := h1.2.1
  have hn2 := h2.2.1
  clear h1 h2 htab
  have hm := make25
  have hm2 := make32
  go_enter Tryd.func4, Tryd.ntmps4
  go_wp2_with fail
  refine (zz15 a1 a2 n1 c1 n2 c2 w.heap.size D ps w H1.out H2.out).mono ?_
  rintro e w0 ⟨⟨x, rfl, hx⟩, rfl⟩
  cases x with
  | false =>
    go_wp2_with fail
    go_ret
    exact ⟨rfl, Below.refl _ _⟩
  | true =>
  have HX := hid (hx rfl)
  clear hx
  by_cases d1 : n1 ≤ 4096
  case neg => go_wp2_with fail; go_ret; exact ⟨rfl, Below.refl _ _⟩
  by_cases d2 : n2 ≤ 1024
  case neg => go_wp2_with fail; go_ret; exact ⟨rfl, Below.refl _ _⟩
  go_wp2_with fail
  refine (tooBig a1 a2 n1 c1 n2 c2 w.heap.size D ps 0 w H1.out H2.out HX.out.1 HX.out.2 (by omega)).mono ?_
  rintro e w0 ⟨⟨x, rfl, _⟩, rfl⟩
  cases x with
  | true =>
    go_wp2_with fail
    go_ret
    exact ⟨rfl, Below.refl _ _⟩
  | false =>
  go_wp2_with fail
  refine (set_any a1 n1 c1 w.heap.size D w H1.out HX.out.1 (by omega) (Nat.le_refl _)).mono ?_
  rintro e w1 ⟨bd, rfl, hS1, hT1, hbd⟩
  have hsl : (toSet D).length ≤ 4096 := Nat.le_trans (toSet_len D) (by rw [H1.out.1]; exact d1)
  obtain ⟨S, eS⟩ : ∃ S, S = toSet D := ⟨_, rfl⟩
  rw [← eS] at hS1 hsl
  clear eS
  have HS1 := hid hS1
  clear hS1
  go_wp2_with fail
  refine (newFile_any w1 w.heap.size bd S (HT.out.on hT1.toBelow) hT1.size hbd HS1.out).mono ?_
  rintro e w2 ⟨L, rfl, hLd, hF2, hT2, hbi, hbu⟩
  subst hLd
  have HF2 := hid hF2
  have hB2 : w.heap.size ≤ w2.heap.size := Nat.le_trans hT1.size hT2.size
  clear hF2
  go_wp2_with fail
  obtain ⟨w3, e3⟩ : ∃ w3, w3 = w2.alloc (.map #[] 0) := ⟨_, rfl⟩
  obtain ⟨w4, e4⟩ : ∃ w4, w4 = w3.alloc (.map #[] 0) := ⟨_, rfl⟩
  have s3 : w3.heap.size = w2.heap.size + 1 := by rw [e3]; simp
  have s4 : w4.heap.size = w2.heap.size + 1 + 1 := by rw [e4, World.size_alloc, s3]
  have t3 : Turn [] w2 w3 := by rw [e3]; exact (Turn.refl _ _).alloc _
  have t4 : Turn [] w3 w4 := by rw [e4]; exact (Turn.refl _ _).alloc _
  have m3 : SetAt w3 w2.heap.size [] := by rw [e3]; exact SetAt.made w2
  have m4 : DictAt w4 (w2.heap.size + 1) [] := by rw [e4, ← s3]; exact DictAt.made w3
  have m34 : SetAt w4 w2.heap.size [] := m3.block (t4.block _ (by omega) (by simp))
  have HF4 := hid (HF2.out.on (t3.trans t4) hB2)
  have HA1 := hid (apart_new HF2.out (Nat.le_refl _))
  have HA2 := hid (apart_new HF2.out (show w2.heap.size ≤ w2.heap.size + 1 by omega))
  have T4 : Turn [] w w4 := hT1.trans (hT2.trans (t3.trans t4))
  rw [← e3, ← e4]
  clear e3 e4 m3 t3 t4 hT1 hT2 HF2
  go_loopw [9, 10] (fun vd vi wr => ∃ k : Nat, k ≤ n2 ∧ vi = .int .i64 k ∧ vd = .int .i64 ((impAll S (ps.take k)).length : Nat) ∧ FileAt w.heap.size wr L S (impAll S (ps.take k)) ∧ SetAt wr w2.heap.size (names (impAll S (ps.take k))) ∧ DictAt wr (w2.heap.size + 1) (impAll S (ps.take k)) ∧ Turn [] w wr) (fun _ vi _ => n2 - (intOf vi).toNat)
  case atStart => exact ⟨0, Nat.zero_le _, rfl, rfl, HF4.out, m34, m4, T4⟩
  case round =>
    obtain ⟨k, hk, rfl, rfl, hFr, hTk, hFi, hTr⟩ := hrel
    have hIl : (impAll S (ps.take k)).length ≤ 1024 := by
      have := impAll_len S (ps.take k)
      rw [List.length_take] at this
      omega
    have hBr : w.heap.size ≤ wr.heap.size := hTr.size
    by_cases hlt : k < n2
    · obtain ⟨b, off, rfl, hb, hcell⟩ := H2.out.2.2.2 k hlt
      have hkl : k < ps.length := by rw [H2.out.1]; exact hlt
      have hxs := HX.out.2 _ (getD_mem (xs := ps) (i := k) hkl)
      have hst := impAll_snoc S ps k hkl
      have hcell' := (hTr.cell (p := ⟨b, off + k, none⟩) (by show b < _; omega) (by simp)).trans hcell
      obtain ⟨p, ep⟩ : ∃ p, p = ps.getD k ByteArray.empty := ⟨_, rfl⟩
      obtain ⟨I, eI⟩ : ∃ I, I = impAll S (ps.take k) := ⟨_, rfl⟩
      rw [← ep] at hcell' hxs hst
      rw [← eI] at hFr hTk hFi hIl hst ⊢
      have HST := hid hst
      clear ep eI hst hcell
      have HFr := hid hFr
      have HTk := hid hTk
      have HFi := hid hFi
      clear hFr hTk hFi
      go_wp2_with fail
      refine (import_any w.heap.size wr L S I p HFr.out hBr hxs (by omega) (by omega)).mono ?_
      rintro e w5 ⟨rfl, hF5, hT5⟩
      have hB5 : w.heap.size ≤ w5.heap.size := Nat.le_trans hBr hT5.size
      have hTk5 : SetAt w5 w2.heap.size (names I) := HTk.out.block (hT5.block _ HTk.out.lt (by simp; exact ⟨HA1.out.1, HA1.out.2.1⟩))
      have hFi5 : DictAt w5 (w2.heap.size + 1) I := HFi.out.block (hT5.block _ HFi.out.lt (by simp; exact ⟨HA2.out.1, HA2.out.2.1⟩))
      have hT15 : Turn [] w w5 := hTr.past hT5 (by simp; exact ⟨HFr.out.own.2.2.2.1, HFr.out.own.2.2.2.2⟩)
      have hpm : p.size ≤ maxLen := by unfold maxLen; omega
      have lk := hFi5.look_ok (s := p) hpm
      have HF5 := hid hF5
      clear hF5
      cases hfind : find I p with
      | some n =>
        rw [hfind] at lk
        simp only [Option.getD_some, Option.isSome_some] at lk
        have hio := imp_old (S := S) hfind
        rw [hio.1] at HST HF5
        rw [hio.2]
        clear hfind hio
        go_wp2_with fail
        go_round
        case rel => exact ⟨k + 1, by omega, by go_num, by rw [HST.out], by rw [HST.out]; exact HF5.out, by rw [HST.out]; exact hTk5, by rw [HST.out]; exact hFi5, hT15⟩
        case measure => simp [intOf]; omega
      | none =>
        rw [hfind] at lk
        simp only [Option.getD_none, Option.isSome_none] at lk
        have hnf : impName S I p ∉ names I := by
          rw [(imp_new hfind).2]
          exact fun h => loc_free (pb p) (S ++ names I) (List.mem_append_right _ h)
        have hnsz := impName_size S I p hfind (by omega) (by omega)
        have hne := (imp_new (S := S) hfind).1
        have hnl := (imp_new (S := S) hfind).2
        rw [← hnl] at hne
        have hps := pb_size p
        have hLe := least_any w5 L.bd (.map (some w2.heap.size)) S (names I) (pb p) HF5.out.decl (.inr ⟨_, rfl, hTk5⟩) (by omega) (by omega) (by rw [names_len]; omega)
        rw [← hnl] at hLe
        obtain ⟨n, en⟩ : ∃ n, n = impName S I p := ⟨_, rfl⟩
        rw [← en] at hnf hnsz hne hLe ⊢
        rw [hne] at HST HF5
        have hnm : n.size ≤ maxLen := by unfold maxLen; omega
        have HLe := hid hLe
        have HBa := hid (base_any p hxs w5)
        have HNf := hid hnf
        have HFd := hid hfind
        have HTk5 := hid hTk5
        have HFi5 := hid hFi5
        clear en hne hnl hLe hnf hfind hTk5 hFi5
        go_wp2_with fail
        refine HBa.out.mono ?_
        rintro e w6 ⟨rfl, rfl⟩
        go_wp2_with fail
        refine HLe.out.mono ?_
        rintro e w6 ⟨rfl, hT6⟩
        have hT16 := hT15.trans hT6
        have hB6 : w.heap.size ≤ w6.heap.size := Nat.le_trans hB5 hT6.size
        have F6 := HF5.out.on hT6 hB5
        obtain ⟨w7, r7, m7, g7⟩ := (HTk5.out.block (hT6.block _ HTk5.out.lt (by simp))).put (s := n) hnm (by rw [names_len]; unfold maxLen; omega)
        have T7 := Turn.of_grown g7
        have hFi6 : DictAt w6 (w2.heap.size + 1) I := HFi5.out.block (hT6.block _ HFi5.out.lt (by simp))
        have hFi7 : DictAt w7 (w2.heap.size + 1) I := hFi6.block (T7.block _ hFi6.lt (by simp))
        obtain ⟨w8, r8, m8, g8⟩ := hFi7.put (s := p) (v := n) hpm hnm (by unfold maxLen; omega) HFd.out
        have T8 := Turn.of_grown g8
        have hTk8 := m7.block (T8.block _ m7.lt (by simp))
        have F7 := F6.turn1 g7 hB6 (by omega) HA1.out
        have F8 := F7.turn1 g8 (Nat.le_trans hB6 g7.size) (by omega) HA2.out
        have hT18 : Turn [] w w8 := (hT16.past T7 (by simp; omega)).past T8 (by simp; omega)
        rw [add_new HNf.out, ← names_snoc I p n] at hTk8
        have HF8 := hid F8
        have HS8 := hid hTk8
        have HM8 := hid m8
        clear F6 F7 F8 hTk8 m7 m8 hFi6 hFi7
        go_wp2_with fail
        go_round
        case rel => exact ⟨k + 1, by omega, by go_num, by rw [HST.out, List.length_append]; first | go_num | (congr 1), by rw [HST.out]; exact HF8.out, by rw [HST.out]; exact HS8.out, by rw [HST.out]; exact HM8.out, hT18⟩
        case measure => simp [intOf]; omega
    · obtain rfl : k = n2 := by omega
      have htake : ps.take k = ps := List.take_of_length_le (by rw [H2.out.1]; omega)
      have hall := impAll_find S ps k (by rw [H2.out.1]; omega)
      rw [htake] at hFr hTk hFi hIl hall ⊢
      obtain ⟨I, eI⟩ : ∃ I, I = impAll S ps := ⟨_, rfl⟩
      rw [← eI] at hFr hTk hFi hIl hall ⊢
      have HAll := hid hall
      have q3 := hFr.c3
      have q4 := hFr.c4
      have n3 := hFr.imps.len
      have n4 := hFr.used.len
      rw [names_len] at n4
      have HFr := hid hFr
      have HFi := hid hFi
      clear hall eI hFr hTk hFi htake
      go_wp2_with fail
      refine (imports_any wr L q3).mono ?_
      rintro e w5 ⟨rfl, rfl⟩
      go_wp2_with fail
      refine (used_any wr L q4).mono ?_
      rintro e w5 ⟨rfl, rfl⟩
      go_wp2_with fail
      go_loop [17] (fun vi => ∃ j : Nat, j ≤ k ∧ vi = .int .i64 j) (fun vi => k - (intOf vi).toNat)
      case atStart => exact ⟨0, Nat.zero_le _, rfl⟩
      case round =>
        obtain ⟨j, hj, rfl⟩ := hrel
        by_cases hlt2 : j < k
        · obtain ⟨b, off, rfl, hb, hcell⟩ := H2.out.2.2.2 j hlt2
          have hkl : j < ps.length := by rw [H2.out.1]; exact hlt2
          have hxs := HX.out.2 _ (getD_mem (xs := ps) (i := j) hkl)
          obtain ⟨n, hn⟩ := HAll.out j hlt2
          have hcell' := (hTr.cell (p := ⟨b, off + j, none⟩) (by show b < _; omega) (by simp)).trans hcell
          obtain ⟨p, ep⟩ : ∃ p, p = ps.getD j ByteArray.empty := ⟨_, rfl⟩
          rw [← ep] at hcell' hxs hn
          have hpm : p.size ≤ maxLen := by unfold maxLen; omega
          have g1 := HFi.out.look (s := p) hpm
          have g2 := HFr.out.imps.look (s := p) hpm
          rw [hn] at g1 g2
          simp only [Option.getD_some] at g1 g2
          have hnmem := find_mem hn
          have hnz : n.size ≤ maxLen := HFi.out.val_size hpm hn
          have g3 := HFr.out.used.look (s := n) hnz
          rw [decide_eq_true hnmem] at g3
          clear ep hcell hn hnmem
          go_wp2_with fail
          go_round
          case rel => exact ⟨j + 1, by omega, by go_num⟩
          case measure => simp [intOf]; omega
        · go_wp2_with fail
          go_ret
          exact ⟨rfl, hTr.toBelow⟩

end Go.Proofs.Qxb6618755aDoor
