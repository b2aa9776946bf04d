/-
  Seat b6618748a: tokensMakeUp: where it answers true the tokens' texts are the content.
-/
import Derived.Test.Qxb6618748aSize
namespace Go.Proofs.Qxb6618748a
open Go.RowKit
set_option linter.unusedVariables false

theorem joinT_take (ts : List TokD) (k : Nat) (t : TokD) (h : ts[k]? = some t) : joinT (ts.take (k + 1)) = joinT (ts.take k) ++ t.tok.data.toList := by
  obtain ⟨hk, rfl⟩ := List.getElem?_eq_some_iff.1 h
  rw [List.take_succ_eq_append_getElem hk, joinT, List.flatMap_append]
  simp [joinT]

theorem take_byte (s : ByteArray) (k : Nat) (h : k < s.size) : s.data.toList.take (k + 1) = s.data.toList.take k ++ [s[k]] := by
  rw [List.take_succ_eq_append_getElem (by simpa using h)]
  rfl

theorem index_at (s : ByteArray) (k : Nat) (h : k < s.size) (W : World) : (Instr.index 9 (.string s) (.int .i64 (k : Int))).run Try.prog W = .ok (.int .u8 ((s[k]'h).toNat : Int)) W := by
  rw [run_index_string W 9 s .i64 (k : Int) Try.underlying9, dif_pos (by omega)]
  rfl

set_option maxHeartbeats 4000000 in
set_option maxRecDepth 100000 in
theorem makeUp_any (s : ByteArray) (ao : Option Addr) (n cap B : Nat) (ts : List TokD) (w : World) (hs : s.size ≤ 1048576) (hT : InToks w B ao n ts) (hw : n + wToks ts ≤ 1048576) :
    Calls Try.prog 23 #[.string s, .slice ao n cap] w fun e w' => Told e (s.data.toList = joinT ts) ∧ Drawn w w' := by
  rcases hT with ⟨rfl, rfl, rfl⟩ | ⟨b, off, sp, rfl, hl, hn, ht⟩
  · by_cases h0 : s.size = 0
    · have hb : ((0 : Int) == (s.size : Int)) = true := by rw [h0]; rfl
      have H0 := hid h0
      clear h0
      go_enter Try.func23, Try.ntmps23
      go_wp2_with fail
      refine wp_loop_rounds 1 ?_
      rw [rounds_succ]
      go_wp2_with fail
      go_ret
      refine ⟨told_yes rfl ?_, drawn w 0⟩
      exact List.eq_nil_of_length_eq_zero (by rw [toList_length]; exact H0.out)
    · have hb : ((0 : Int) == (s.size : Int)) = false := beq_eq_false_iff_ne.2 (by omega)
      go_enter Try.func23, Try.ntmps23
      go_wp2_with fail
      refine wp_loop_rounds 1 ?_
      rw [rounds_succ]
      go_wp2_with fail
      go_ret
      exact ⟨told_no rfl, drawn w 0⟩
  · have HL := hid hl
    have HT := hid ht
    clear hl ht
    go_enter Try.func23, Try.ntmps23
    go_wp2_with fail
    go_loopw [5, 11] (fun va vi wr => ∃ (k q p : Nat), k ≤ n ∧ vi = .int .i64 k ∧ va = .int .i64 p ∧ p ≤ s.size ∧ Hid (s.data.toList.take p = joinT (ts.take k)) ∧ wr = w.drewN q) (fun _ vi _ => n - (intOf vi).toNat)
    case atStart => exact ⟨0, 0, 0, Nat.zero_le _, rfl, rfl, Nat.zero_le _, by simp [Hid, joinT], rfl⟩
    case round =>
      obtain ⟨k, q, p, hk, rfl, rfl, hp, HP, hwr⟩ := hrel
      by_cases hlt : k < n
      · obtain ⟨t, ht⟩ : ∃ t, ts[k]? = some t := ⟨ts[k]'(by rw [HL.out]; exact hlt), List.getElem?_eq_getElem _⟩
        obtain ⟨hsp, hb, ba, bn, bc, ca, cn, cc, ⟨q0, q1, q2, q3⟩, ⟨hI, hts, hbn, _, _⟩, hC, _⟩ := HT.out k t ht
        have hcw : t.tok.size ≤ 1048576 := by
          have h1 := wTok_le ts k t ht
          unfold wTok at h1
          omega
        obtain rfl := hsp
        have q0' : wr.cell? ⟨b, off + k * 4, none⟩ = some (.string t.tok) := by rw [hwr]; exact q0
        have HJ := hid (joinT_take ts k t ht)
        have HWr := hid hwr
        clear hwr ht hI hC q0 q1 q2 q3
        by_cases hfit : t.tok.size ≤ s.size - p
        case neg =>
          go_wp2_with fail
          go_ret
          exact ⟨told_no rfl, q, HWr.out⟩
        go_wp2_with fail
        obtain ⟨wo, hwo⟩ : ∃ wo : World, wo = wr := ⟨_, rfl⟩
        rw [← hwo] at HWr ⊢
        clear hwo q0'
        go_loopw [8] (fun vj wr => ∃ (m r : Nat), m ≤ t.tok.size ∧ vj = .int .i64 m ∧ Hid ((s.data.toList.drop p).take m = t.tok.data.toList.take m) ∧ wr = w.drewN r) (fun vj _ => t.tok.size - (intOf vj).toNat)
        case atStart => exact ⟨0, q, Nat.zero_le _, rfl, by simp [Hid], HWr.out⟩
        case round =>
          obtain ⟨m, r, hm, rfl, HM, hwr⟩ := hrel
          by_cases hml : m < t.tok.size
          · have hpm : p + m < s.size := by omega
            have hi1 : (p : Int) + (m : Int) < (s.size : Int) := by omega
            have hi2 : (m : Int) < (t.tok.size : Int) := by omega
            have hwp : IntKind.i64.wrap ((p : Int) + (m : Int)) = (p : Int) + (m : Int) := by rw [IntKind.wrap_i64]; omega
            have hx1 := fun W => index_at s (p + m) hpm W
            rw [show ((p + m : Nat) : Int) = (p : Int) + (m : Int) from by omega] at hx1
            have hx2 := fun W => index_at t.tok m hml W
            obtain ⟨u, hu⟩ : ∃ u, u = s[p + m]'hpm := ⟨_, rfl⟩
            obtain ⟨v, hv⟩ : ∃ v, v = t.tok[m]'hml := ⟨_, rfl⟩
            rw [← hu] at hx1
            rw [← hv] at hx2
            have HU := hid hu
            have HV := hid hv
            clear hu hv
            go_wp2_with fail
            go_quiet (fail)
            by_cases huv : u = v
            · have hb1 : ((u.toNat : Int) != (v.toNat : Int)) = false := by rw [huv]; simp
              have HUV := hid huv
              clear huv
              go_wp2_with fail
              go_roundw
              case rel =>
                refine ⟨m + 1, r + nq, by omega, by go_num, ?_, rfl⟩
                show _ = _
                rw [take_byte t.tok m hml, ← HM.out, List.take_succ_eq_append_getElem (by rw [List.length_drop, toList_length]; omega)]
                congr 2
                rw [← HV.out, ← HUV.out, HU.out]
                simp only [List.getElem_drop]
                rfl
              case measure => simp [intOf]; omega
            · have hb1 : ((u.toNat : Int) != (v.toNat : Int)) = true := by
                rw [bne_iff_ne]
                intro e
                exact huv (UInt8.toNat_inj.1 (by omega))
              go_wp2_with fail
              go_ret
              exact ⟨told_no rfl, _, by rw [World.drewN_drewN]⟩
          · have HWr2 := hid hwr
            clear hwr
            go_wp2_with fail
            go_roundw
            case rel =>
              refine ⟨k + 1, r, p + t.tok.size, by omega, by go_num, by go_num, by omega, ?_, HWr2.out⟩
              show _ = _
              have h := HM.out
              obtain rfl : m = t.tok.size := by omega
              rw [List.take_of_length_le (l := t.tok.data.toList) (by rw [toList_length]; omega)] at h
              rw [HJ.out, ← HP.out, List.take_add, h]
            case measure => simp [intOf]; omega
      · by_cases hps : p = s.size
        · have hb : ((p : Int) == (s.size : Int)) = true := by rw [hps]; simp
          have HPs := hid hps
          clear hps
          go_wp2_with fail
          go_ret
          refine ⟨told_yes rfl ?_, q, rfl⟩
          have h := HP.out
          rw [List.take_of_length_le (l := ts) (by rw [HL.out]; omega), List.take_of_length_le (by rw [toList_length, HPs.out]; omega)] at h
          exact h
        · have hb : ((p : Int) == (s.size : Int)) = false := beq_eq_false_iff_ne.2 (by omega)
          go_wp2_with fail
          go_ret
          exact ⟨told_no rfl, q, rfl⟩

end Go.Proofs.Qxb6618748a
