/-
  Seat b6618748a: addText of a content that its tokens' texts make up.
-/
import Derived.Test.Qxb6618748aNext
import Derived.Deep.LoopGhost
namespace Go.Proofs.Qxb6618748a
open Go.RowKit
set_option linter.unusedVariables false
attribute [local go_sem] call47 run_store_float

/-- The tokens' texts, one after another. -/
def joinT (ts : List TokD) : List UInt8 := ts.flatMap fun t => t.tok.data.toList
/-- What the pieces of the tokens are packed as. -/
def encAll (ts : List TokD) : List UInt8 := ts.flatMap encPiece

/-- The tokens of block O, in memory below block P. -/
def ToksIn (w : World) (O P : Nat) (ts : List TokD) : Prop :=
  ∀ i t, ts[i]? = some t → O < P ∧ ∃ ba bn bc ca cn cc, TokCells w O (i * 4) t ba bn bc ca cn cc ∧ TokAt w P t ba bn bc ca cn cc

theorem ToksIn.below {w w' : World} {O P : Nat} {ts : List TokD} (h : ToksIn w O P ts) (hb : Below P w w') : ToksIn w' O P ts := by
  intro i t hi
  obtain ⟨h0, ba, bn, bc, ca, cn, cc, h1, h2⟩ := h i t hi
  exact ⟨h0, ba, bn, bc, ca, cn, cc, h1.below hb h0, h2.below hb⟩

theorem joinT_drop (ts : List TokD) (k : Nat) (t : TokD) (h : ts[k]? = some t) : joinT (ts.drop k) = t.tok.data.toList ++ joinT (ts.drop (k + 1)) := by
  obtain ⟨hk, rfl⟩ := List.getElem?_eq_some_iff.1 h
  rw [List.drop_eq_getElem_cons hk]
  rfl
theorem encAll_take (ts : List TokD) (k : Nat) (t : TokD) (h : ts[k]? = some t) : encAll (ts.take (k + 1)) = encAll (ts.take k) ++ encPiece t := by
  obtain ⟨hk, rfl⟩ := List.getElem?_eq_some_iff.1 h
  rw [List.take_succ_eq_append_getElem hk, encAll, List.flatMap_append]
  simp [encAll]
theorem encAll_le (ts : List TokD) (k : Nat) : (encAll (ts.take k)).length ≤ (encAll ts).length := by
  have h : encAll ts = encAll (ts.take k) ++ encAll (ts.drop k) := by
    rw [encAll, encAll, encAll, ← List.flatMap_append, List.take_append_drop]
  rw [h, List.length_append]
  omega

theorem bytes_ext {s p : ByteArray} (h : s.data.toList = p.data.toList) : s = p := ByteArray.ext (Array.toList_inj.mp h)

set_option maxHeartbeats 8000000 in
set_option maxRecDepth 100000 in
theorem addText_any (P O : Nat) (ts : List TokD) (s : ByteArray) (ao : Option Addr) (cap : Nat) (w : World)
    (hP : PAt w P ao 0 cap 0) (hown : w.ownsRow (P + 1) 5 1 (.slice ao 0 cap) 0 []) (hs : s.size ≤ 1048576) (hlen : ts.length ≤ 1048576) (hlim : (encAll ts).length + 40000000 ≤ 140737488355328)
    (hT : ToksIn w O P ts) (hj : s.data.toList = joinT ts) (h0 : 0 < ts.length) :
    Calls Try.prog 31 #[.pointer (some ⟨P, 0, none⟩), .string s, .slice (some ⟨O, 0, none⟩) ts.length ts.length, .bool false] w fun e w' => e = .returned (.tuple #[]) ∧
      ∃ ao' cap', PAt w' P ao' (encAll ts).length cap' ts.length ∧ w'.ownsRow (P + 1) 5 1 (.slice ao' (encAll ts).length cap') (encAll ts).length (Lib.byteCells (encAll ts)) ∧ Fr P (some P) w w' := by
  have hPs : P < w.heap.size := (Array.getElem?_eq_some_iff.1 hP).1
  have HP := hid hP
  have Hown := hid hown
  have HT := hid hT
  have HJ := hid hj
  clear hP hown hT hj
  go_enter Try.func31, Try.ntmps31
  go_wp2_with fail
  go_loopg [1, 2] ts.length (fun g vs1 vs2 wr => ∃ (k : Nat) (T : ByteArray) (a : Addr) (ao4 : Option Addr) (cap4 : Nat), g + k = ts.length ∧ vs1 = .string T ∧ T.size ≤ 1048576 ∧ Hid (T.data.toList = joinT (ts.drop k)) ∧ vs2 = .slice (some a) g g ∧ (0 < g → a = ⟨O, k * 4, none⟩) ∧
      PAt wr P ao4 (encAll (ts.take k)).length cap4 k ∧ wr.ownsRow (P + 1) 5 1 (.slice ao4 (encAll (ts.take k)).length cap4) (encAll (ts.take k)).length (Lib.byteCells (encAll (ts.take k))) ∧ Fr P (some P) w wr ∧ wr.heap[w.heap.size]? = some (.cells #[.bool false] 4 (0, 0)))
  case atStart =>
    refine ⟨0, s, ⟨O, 0, none⟩, ao, cap, rfl, rfl, hs, HJ.out, rfl, fun _ => by simp, ?_, ?_, ?_, ?_⟩
    · simpa [encAll] using HP.out.below ((Below.refl (P + 1) w).alloc (by omega) _) (by omega)
    · simpa [encAll, Lib.byteCells] using Hown.out.alloc _
    · exact (Fr.refl _ _ w).alloc (by omega) _
    · exact box_new w _
  case round =>
    obtain ⟨k, T, a, ao4, cap4, hg, rfl, hTm, HTx, rfl, hga, hP4, hown4, hfr4, hR4⟩ := hrel
    have hs4 := hfr4.1.size
    have hwl : w.heap.size < wr.heap.size := (Array.getElem?_eq_some_iff.1 hR4).1
    by_cases hpos : 0 < gk
    · obtain rfl := hga hpos
      have hk : k < ts.length := by omega
      obtain ⟨t, ht⟩ : ∃ t, ts[k]? = some t := ⟨ts[k], List.getElem?_eq_getElem hk⟩
      obtain ⟨hO, ba, bn, bc, ca, cn, cc, hTC, hTA⟩ := HT.out.below hfr4.1 k t ht
      have HTj := hid (HTx.out.trans (joinT_drop ts k t ht))
      have HEn := hid (encAll_take ts k t ht)
      have hEl := encAll_le ts (k + 1)
      rw [encAll_take ts k t ht, List.length_append] at hEl
      have hEp : (encTok t).length ≤ (encPiece t).length := by rw [encPiece, List.length_append]; omega
      have HTC := hid hTC
      have HTA := hid hTA
      have Hg := hid hg
      have HP4 := hid hP4
      have hts : t.tok.size ≤ 1048576 := hTA.1.2.1
      have hTl : T.size = t.tok.size + (joinT (ts.drop (k + 1))).length := by
        have h := congrArg List.length HTj.out
        rw [List.length_append, toList_length, toList_length] at h
        exact h
      have hTs : t.tok.size ≤ T.size := by omega
      have HTl := hid hTl
      have hc0 := hTC.1
      have hR40 := box_cell hR4 0
      simp only [List.getElem?_toArray, List.getElem?_cons_zero] at hR40
      have HR4 := hid hR4
      clear hTC hTA ht hP4 hR4 hTl hga hg
      go_wp2_with fail
      refine (next_any T t.tok _ O (k * 4) gk gk wr HTj.out hTm (by omega) hc0).mono ?_
      rintro e w5 ⟨rfl, hfr5⟩
      have hs5 := hfr5.1.size
      go_upto_if 30 with fail
      go_cut [9, 10] (fun s9 s10 wx => s9 = .int .i64 1 ∧ s10 = .int .i64 (t.tok.size : Int) ∧ wx = w5)
      case first =>
        by_cases h1 : gk = 1
        · have hb1 : ((1 : Int) == (gk : Int)) = true := by rw [h1]; rfl
          have hT1 : T.size = t.tok.size := by
            have hd : ts.drop (k + 1) = [] := List.drop_eq_nil_of_le (by have := Hg.out; omega)
            rw [HTl.out, hd]
            rfl
          have H1 := hid h1
          have HT1 := hid hT1
          clear h1 hT1
          go_wp2_with fail
          go_meet
          exact ⟨by rw [H1.out]; rfl, by rw [HT1.out], rfl⟩
        · have hb1 : ((1 : Int) == (gk : Int)) = false := beq_eq_false_iff_ne.2 (by omega)
          go_wp2_with fail
          go_meet
          exact ⟨rfl, rfl, rfl⟩
      case rest =>
        obtain ⟨rfl, rfl, rfl⟩ := hcut
        have hown5 := owns_below hown4 hfr5.1
        have hP5 := HP4.out.below hfr5.1 (by omega)
        have hR5 := hfr5.box HR4.out (by simp) (by decide)
        have hR50 := box_cell hR5 0
        simp only [List.getElem?_toArray, List.getElem?_cons_zero] at hR50
        have hfr5' : Fr (P + 1) none wr wc := hfr5.mono (by omega)
        have he : T.extract 0 t.tok.size = t.tok := by
          have h := (ext_prefix T t.tok _ HTj.out).2
          rw [beq_iff_eq, ByteArray.toList_eq, ByteArray.toList_eq] at h
          exact bytes_ext h
        have hC := hid ((closure_any (T.extract 0 t.tok.size) (some ⟨O, k * 4, none⟩) 1 gk w.heap.size wc.drew hR50 (by simp; omega)).mono (R' := fun e w' => e = .returned (.agg #[.string ByteArray.empty, .string t.tok, .slice (some ⟨O, k * 4, none⟩) 1 gk]) ∧ Fr (P + 1) none wc w' ∧ w'.ownsRow (P + 1) 5 1 (.slice ao4 (encAll (ts.take k)).length cap4) (encAll (ts.take k)).length (Lib.byteCells (encAll (ts.take k)))) (by
          rintro e w' ⟨rfl, hf⟩
          rw [he]
          exact ⟨rfl, (Fr.refl (P + 1) none wc).drew.trans (hf.mono (by simp; omega)), owns_below hown5.drew hf.1⟩))
        have hfrw : Fr P (some P) w wc := hfr4.trans ((hfr5'.mono (Nat.le_succ P)).any)
        have hA := hid (fun (w6 : World) (hf : Fr (P + 1) none wc w6) (ho : w6.ownsRow (P + 1) 5 1 (.slice ao4 (encAll (ts.take k)).length cap4) (encAll (ts.take k)).length (Lib.byteCells (encAll (ts.take k)))) =>
          chunk_one P (encAll (ts.take k)).length t O (k * 4) gk ba bn bc ca cn cc ao4 cap4 k _ w6 (hP5.below hf.1 (by omega)) ho hO (by omega) (by omega) hpos (HTC.out.below (hfr5'.trans hf).1 (show O < P + 1 by omega)) (HTA.out.below ((hfr5'.trans hf).1.mono (Nat.le_succ P))))
        have HR5 := hid hR5
        have HE := hid he
        clear he hR5 hP5 hown4 hown5 hR40 hR50
        go_wp2_with fail
        go_cut [] (fun wx => ∃ ao7 cap7, PAt wx P ao7 (encAll (ts.take (k + 1))).length cap7 (k + 1) ∧ wx.ownsRow (P + 1) 5 1 (.slice ao7 (encAll (ts.take (k + 1))).length cap7) (encAll (ts.take (k + 1))).length (Lib.byteCells (encAll (ts.take (k + 1)))) ∧ Fr P (some P) wc wx)
        case first =>
          go_region_with (first | (go_at_call 40; refine hC.out.mono ?_; rintro e w6 ⟨rfl, hfr6, hown6⟩) | (go_at_call 41; refine (hA.out _ hfr6 hown6).mono ?_; rintro e w7 ⟨rfl, ao7, cap7, hP7, hown7, hfr7⟩))
          go_wp2_with fail
          go_meet
          refine ⟨ao7, cap7, ?_, ?_, ((hfr6.mono (Nat.le_succ P)).any).trans hfr7⟩
          · rw [HEn.out, List.length_append]
            exact hP7
          · rw [HEn.out, List.length_append, Lib.byteCells_append]
            exact hown7
        case rest =>
          obtain ⟨ao7, cap7, hP7, hown7, hfr7⟩ := hcut
          have HP7 := hid hP7
          have hR7 := hid (hfr7.box HR5.out (by simp; omega) (by decide))
          have hgi : (1 : Int) ≤ (gk : Int) := by omega
          clear hP7 hC hA
          by_cases h1 : gk = 1
          · subst h1
            go_wp2_with fail
            go_quiet (fail)
            go_wp2_with fail
            go_roundg 0
            case measure => omega
            case rel =>
              have hfr8 : Fr P (some P) w (wc.drewN nq) := (hfrw.trans hfr7).trans (fr_drewN _ _ _ _)
              refine ⟨k + 1, T.extract t.tok.size T.size, _, ao7, cap7, ?_, rfl, ?_, ext_rest T t.tok _ HTj.out, rfl, ?_, HP7.out, hown7, hfr8, hR7.out⟩
              · have := Hg.out; omega
              · have h1 := toList_length (T.extract t.tok.size T.size)
                rw [ext_rest T t.tok _ HTj.out] at h1
                have := HTl.out
                omega
              · intro hp
                exact absurd hp (Nat.lt_irrefl 0)
          · have hgn : ¬ gk = 1 := h1
            clear h1
            go_wp2_with fail
            go_quiet (fail)
            go_wp2_with fail
            go_roundg (gk - 1)
            case measure => omega
            case rel =>
              have hfr8 : Fr P (some P) w (wc.drewN nq) := (hfrw.trans hfr7).trans (fr_drewN _ _ _ _)
              refine ⟨k + 1, T.extract t.tok.size T.size, _, ao7, cap7, ?_, rfl, ?_, ext_rest T t.tok _ HTj.out, rfl, ?_, HP7.out, hown7, hfr8, hR7.out⟩
              · have := Hg.out; omega
              · have h1 := toList_length (T.extract t.tok.size T.size)
                rw [ext_rest T t.tok _ HTj.out] at h1
                have := HTl.out
                omega
              · intro hp
                rw [Nat.succ_mul]
    · have hg0 : gk = 0 := by omega
      have hkk : k = ts.length := by omega
      have hTe : T.toList.isEmpty = true := by
        have h := HTx.out
        rw [hkk, List.drop_length] at h
        rw [ByteArray.toList_eq, h]
        rfl
      subst hg0
      have htk : ts.take k = ts := List.take_of_length_le (by omega)
      rw [htk] at hP4 hown4
      have HK := hid hkk
      have HP4 := hid hP4
      clear hkk htk hg hga hP4
      go_wp2_with fail
      go_end0
      refine ⟨rfl, ao4, cap4, ?_, hown4, hfr4⟩
      have := HP4.out
      rw [HK.out] at this
      exact this

end Go.Proofs.Qxb6618748a
