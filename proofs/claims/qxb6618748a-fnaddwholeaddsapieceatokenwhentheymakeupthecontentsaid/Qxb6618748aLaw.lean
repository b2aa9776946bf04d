/-
  Seat b6618748a: the law FnAddWholeAddsAPieceATokenWhenTheyMakeUpTheContent.
-/
import Derived.Test.Qxb6618748aBound
namespace Go.Proofs.Qxb6618748a
open Go.RowKit
set_option linter.unusedVariables false
attribute [local go_sem] run_store_float

theorem ret_true {x : Bool} (h : x = true) : Ending.returned (.bool x) = .returned (.bool true) := by rw [h]
theorem drawn_fr {B : Nat} {b : Option Nat} {w w' : World} (h : Drawn w w') : Fr B b w w' := by
  obtain ⟨n, rfl⟩ := h
  exact fr_drewN _ _ _ _
theorem InToks.below {w w' : World} {B : Nat} {ao : Option Addr} {n : Nat} {ts : List TokD} (h : InToks w B ao n ts) (hb : Below B w w') : InToks w' B ao n ts := by
  rcases h with h | ⟨b, off, sp, h1, h2, h3, h4⟩
  · exact .inl h
  · refine .inr ⟨b, off, sp, h1, h2, h3, fun i t hi => ?_⟩
    obtain ⟨g1, g2, ba, bn, bc, ca, cn, cc, g3, ⟨g4, g5, g6⟩⟩ := h4 i t hi
    exact ⟨g1, g2, ba, bn, bc, ca, cn, cc, g3.below hb g2, ⟨⟨g4.1.below hb, g4.2⟩, g5.below hb, g6⟩⟩

theorem TokAt.mono {w : World} {P P' : Nat} {t : TokD} {ba : Option Addr} {bn bc : Nat} {ca : Option Addr} {cn cc : Nat} (h : TokAt w P t ba bn bc ca cn cc) (hP : P ≤ P') : TokAt w P' t ba bn bc ca cn cc :=
  ⟨⟨h.1.1.mono hP, h.1.2⟩, h.2.1.mono hP, h.2.2⟩

theorem whole_any (P O : Nat) (ts : List TokD) (s : ByteArray) (a : Option Addr) (w : World)
    (hP : PAt w P none 0 0 0) (hs : s.size ≤ 1048576) (hlen : ts.length ≤ 1048576) (hlim : (encAll ts).length + 40000000 ≤ 140737488355328) (ha : 0 < ts.length → a = some ⟨O, 0, none⟩)
    (hT : ToksIn w O P ts) (hj : s.data.toList = joinT ts) :
    Calls Try.prog 14 #[.pointer (some ⟨P, 0, none⟩), .agg #[.string ByteArray.empty, .string s, .slice a ts.length ts.length]] w fun e w' => e = .returned (.tuple #[]) ∧
      ∃ ao' cap', PAt w' P ao' (encAll ts).length cap' ts.length ∧ w'.ownsRow (P + 1) 5 1 (.slice ao' (encAll ts).length cap') (encAll ts).length (Lib.byteCells (encAll ts)) ∧ Fr P (some P) w w' := by
  have hPs : P < w.heap.size := (Array.getElem?_eq_some_iff.1 hP).1
  rcases Nat.eq_zero_or_pos ts.length with h0 | h0
  · have hnil : ts = [] := List.eq_nil_of_length_eq_zero h0
    subst hnil
    have hse : s.toList.isEmpty = true := by
      rw [ByteArray.toList_eq, hj]
      rfl
    refine (whole_none s hse P a w).mono ?_
    rintro e w' ⟨rfl, hfr⟩
    refine ⟨rfl, none, 0, ?_, ?_, (hfr.mono (by omega)).any⟩
    · exact hP.below hfr.1 hPs
    · exact World.ownsRow_nil _ _ _ _
  · rw [ha h0]
    exact whole_some P O ts s w hP hs hlen hlim hT hj h0

set_option maxHeartbeats 8000000 in
set_option maxRecDepth 100000 in
theorem law_any (s : ByteArray) (ao : Option Addr) (n cap : Nat) (ts : List TokD) (w : World) (hs : s.size ≤ 9223372036854775807) (hT : InToks w w.heap.size ao n ts) :
    Calls Try.prog 5 #[.string s, .slice ao n cap] w fun e w' => e = .returned (.bool true) ∧ Below w.heap.size w w' := by
  have HT := hid hT
  have Hok := hid hT.ok
  clear hT
  go_enter Try.func5, Try.ntmps5
  go_wp2_with fail
  refine (bytes_any s ao n cap _ ts w hs HT.out).mono ?_
  rintro e w' ⟨⟨x, rfl, hx⟩, rfl⟩
  cases x with
  | false =>
    go_wp2_with fail
    go_ret
    exact ⟨rfl, Below.refl _ _⟩
  | true =>
    have hW : s.size + n + wToks ts ≤ 1048576 := hx rfl
    clear hx
    by_cases hs2 : s.size ≤ 524288
    case neg =>
      go_wp2_with fail
      go_ret
      exact ⟨rfl, Below.refl _ _⟩
    go_wp2_with fail
    refine (toks_any ao n cap _ ts w HT.out (by omega)).mono ?_
    rintro e w1 ⟨⟨y, rfl, hy0, hy1⟩, hd1⟩
    have hfr1 : Fr w.heap.size none w w1 := drawn_fr hd1
    by_cases hyb : 524288 < y
    · go_wp2_with fail
      go_ret
      exact ⟨rfl, hfr1.1⟩
    go_wp2_with fail
    refine (makeUp_any s ao n cap _ ts w1 (by omega) (HT.out.below hfr1.1) (by omega)).mono ?_
    rintro e w2 ⟨⟨x, rfl, hx⟩, hd2⟩
    have hfr2 : Fr w.heap.size none w w2 := hfr1.trans (drawn_fr hd2)
    cases x with
    | false =>
      go_wp2_with fail
      go_ret
      exact ⟨rfl, hfr2.1⟩
    | true =>
      have HJ := hid (hx rfl)
      have hs22 := hfr2.1.size
      clear hx hd1 hd2 hfr1
      go_wp2_with fail
      refine (wireToks_any ao n cap w.heap.size ts w2 hs22 (HT.out.below hfr2.1) (by omega)).mono ?_
      rintro e w3 ⟨⟨a3, rfl, ha3, hin3⟩, hfr3⟩
      have hfr3' : Fr w.heap.size none w w3 := hfr2.trans (hfr3.mono hs22)
      have hs33 := hfr3.1.size
      have HIN := hid hin3
      have hL := encAll_bound ts Hok.out.2 (by omega)
      rw [Hok.out.1] at hL
      clear hin3
      go_wp2_with fail
      rw [show ({ data := #[] } : ByteArray) = ByteArray.empty from rfl]
      obtain ⟨W4, hW4⟩ : ∃ W4, W4 = w3.alloc (.cells #[.slice none 0 0, .int .i64 0] 41) := ⟨_, rfl⟩
      have hfr4 : Fr w3.heap.size none w3 W4 := by rw [hW4]; exact (Fr.refl _ _ w3).alloc (Nat.le_refl _) _
      have hP4 : PAt W4 w3.heap.size none 0 0 0 := by rw [hW4]; exact box_new w3 _
      have hs44 : W4.heap.size = w3.heap.size + 1 := by rw [hW4]; simp
      rw [← hW4]
      clear hW4
      have hn : ts.length = n := Hok.out.1
      have hA := whole_any w3.heap.size w2.heap.size ts s a3 W4 hP4 (by omega) (by omega) (by omega) (fun h => ha3 (by omega)) (HIN.out.below hfr4.1) HJ.out
      rw [hn] at hA
      have HN := hid hn
      clear hn
      refine hA.mono ?_
      rintro e w5 ⟨rfl, ao5, cap5, hP5, hown5, hfr5⟩
      clear hA
      have hb5 : Below w.heap.size w w5 := (hfr3'.1.trans (hfr4.1.mono (by omega))).trans (hfr5.1.mono (by omega))
      have h35 : Below w3.heap.size w3 w5 := hfr4.1.trans hfr5.1
      have hs55 := hfr5.1.size
      have HP5 := hid hP5
      have Hown5 := hid hown5
      clear hP5 hP4 hown5 hfr4 hfr5
      go_wp2_with fail
      obtain ⟨W6, hW6⟩ : ∃ W6, W6 = w5.alloc (.cells #[.slice none 0 0, .int .i64 0] 41) := ⟨_, rfl⟩
      have hb6 : Below w5.heap.size w5 W6 := by rw [hW6]; exact (Below.refl _ w5).alloc (Nat.le_refl _) _
      have hP6 : PAt W6 w5.heap.size none 0 0 0 := by rw [hW6]; exact box_new w5 _
      have hs66 : W6.heap.size = w5.heap.size + 1 := by rw [hW6]; simp
      rw [← hW6]
      clear hW6
      go_loopw [8] (fun vi wr => ∃ (k : Nat) (aq : Option Addr) (capq : Nat), k ≤ n ∧ vi = .int .i64 k ∧ PAt wr w5.heap.size aq (encAll (ts.take k)).length capq k ∧ wr.ownsRow (w5.heap.size + 1) 5 1 (.slice aq (encAll (ts.take k)).length capq) (encAll (ts.take k)).length (Lib.byteCells (encAll (ts.take k))) ∧ Fr w5.heap.size (some w5.heap.size) W6 wr) (fun vi _ => n - (intOf vi).toNat)
      case atStart => exact ⟨0, none, 0, Nat.zero_le _, rfl, by simpa [encAll] using hP6, by simpa [encAll, Lib.byteCells] using World.ownsRow_nil W6 (w5.heap.size + 1) 5 1, Fr.refl _ _ _⟩
      case round =>
        obtain ⟨k, aq, capq, hk, rfl, hPq, hownq, hfrq⟩ := hrel
        have h5r : Below w5.heap.size w5 wr := hb6.trans hfrq.1
        have h3r : Below w3.heap.size w3 wr := h35.trans (h5r.mono (by omega))
        by_cases hlt : k < n
        · obtain ⟨t, htt⟩ : ∃ t, ts[k]? = some t := ⟨ts[k]'(by rw [HN.out]; exact hlt), List.getElem?_eq_getElem _⟩
          obtain ⟨hO, ba, bn, bc, ca, cn, cc, hTC, hTA⟩ := HIN.out.below h3r k t htt
          have HE := hid (encAll_take ts k t htt)
          have hEl := encAll_le ts (k + 1)
          rw [encAll_take ts k t htt, List.length_append] at hEl
          have hEp : (encTok t).length ≤ (encPiece t).length := by rw [encPiece, List.length_append]; omega
          have hc0 := hTC.1
          obtain rfl := ha3 (by omega)
          have hTB := (hTA.mono (P' := w5.heap.size) (by omega)).below ((Below.refl w5.heap.size wr).drew)
          have hU := hid (add_one w5.heap.size _ t w2.heap.size (k * 4) (n - k) ba bn bc ca cn cc aq capq k _ wr.drew hPq hownq.drew (by omega) (by omega) (by omega) hTC hTB)
          have hki : (k : Int) < (n : Int) := by omega
          have hki1 : (k : Int) + 1 ≤ (n : Int) := by omega
          have hki0 : (0 : Int) ≤ (k : Int) := by omega
          have hwk : IntKind.i64.wrap ((k : Int) + 1) = (k : Int) + 1 := by rw [IntKind.wrap_i64]; omega
          have HTC := hid hTC
          have Hfr := hid hfrq
          clear hTC hTA hTB htt hPq hownq hfrq
          go_wp2_with fail
          go_region_with (go_at_call 24; rw [show ({ data := #[] } : ByteArray) = ByteArray.empty from rfl]; refine hU.out.mono ?_; rintro e w7 ⟨rfl, ao7, cap7, hP7, hown7, hfr7⟩)
          all_goals
            have hfr8 : Fr w5.heap.size (some w5.heap.size) W6 w7 := (Hfr.out.drew).trans hfr7
            have HP7 := hid hP7
            clear hP7
            go_wp2_with fail
            go_roundw
            case rel =>
              refine ⟨k + 1, ao7, cap7, by omega, by go_num, ?_, ?_, hfr8⟩
              · rw [HE.out, List.length_append]
                exact HP7.out
              · rw [HE.out, List.length_append, Lib.byteCells_append]
                exact hown7
            case measure => simp [intOf]; omega
        · have hkk : ts.take k = ts := List.take_of_length_le (by rw [HN.out]; omega)
          rw [hkk] at hPq hownq
          obtain rfl : k = n := by omega
          have hP5r := HP5.out.below h5r (by omega)
          have hown5r : wr.ownsRow (w3.heap.size + 1) 5 1 (.slice ao5 (encAll ts).length cap5) (encAll ts).length (Lib.byteCells (encAll ts)) := owns_below Hown5.out h5r
          have hbb : ((k : Int) == (k : Int)) = true := by simp
          have HPr := hid hP5r
          have HPq := hid hPq
          have hbelow : Below w.heap.size w wr := hb5.trans (h5r.mono (by omega))
          clear hkk hP5r hPq
          go_wp2_with fail
          refine (piecesN_any w3.heap.size _ _ _ k wr HPr.out).mono ?_
          rintro e w8 ⟨rfl, rfl⟩
          go_wp2_with fail
          refine (piecesN_any w5.heap.size _ _ _ k wr HPq.out).mono ?_
          rintro e w8 ⟨rfl, rfl⟩
          go_wp2_with fail
          refine (piecesData_any w3.heap.size _ _ _ k wr HPr.out).mono ?_
          rintro e w8 ⟨rfl, rfl⟩
          go_wp2_with fail
          refine (piecesData_any w5.heap.size _ _ _ k wr HPq.out).mono ?_
          rintro e w8 ⟨rfl, rfl⟩
          go_wp2_with fail
          refine (equal_any _ _ _ _ _ _ _ _ wr (by omega) hown5r hownq).mono ?_
          rintro e w8 ⟨rfl, hd8⟩
          go_wp2_with fail
          go_ret
          exact ⟨rfl, hbelow.trans (drawn_fr (b := none) hd8).1⟩

end Go.Proofs.Qxb6618748a
