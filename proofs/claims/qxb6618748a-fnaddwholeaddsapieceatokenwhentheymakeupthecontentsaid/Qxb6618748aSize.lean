/-
  Seat b6618748a: grow, candsSize, toksSize: they answer some int and only read.
-/
import Derived.Test.Qxb6618748aIn
namespace Go.Proofs.Qxb6618748a
open Go.RowKit
set_option linter.unusedVariables false

def growF (t wd bs bd : Int) : Int := if bd < t ∨ (bd - t) / 8 < wd then bd + 1 else if bd - (t + 8 * wd) < bs then bd + 1 else t + 8 * wd + bs

theorem growF_bd (t wd bs bd : Int) (h1 : 0 ≤ t) (h2 : 0 ≤ wd) (h3 : 0 ≤ bs) (h4 : 0 ≤ bd) : 0 ≤ growF t wd bs bd ∧ growF t wd bs bd ≤ bd + 1 := by
  unfold growF
  split
  · omega
  · split <;> omega

set_option maxHeartbeats 1000000 in
theorem grow_any (t wd bs bd : Int) (w : World) (h1 : 0 ≤ t) (h1' : t ≤ 4194304) (h2 : 0 ≤ wd) (h2' : wd ≤ 4194304) (h3 : 0 ≤ bs) (h3' : bs ≤ 4194304) (h4 : 0 ≤ bd) (h4' : bd ≤ 4194304) :
    Calls Try.prog 26 #[.int .i64 t, .int .i64 wd, .int .i64 bs, .int .i64 bd] w fun e w' => e = .returned (.int .i64 (growF t wd bs bd)) ∧ w = w' := by
  by_cases c1 : bd < t
  · have e : growF t wd bs bd = bd + 1 := by unfold growF; rw [if_pos (.inl c1)]
    rw [e]
    go_enter Try.func26, Try.ntmps26
    go_wp2
    go_ret
    exact ⟨rfl, rfl⟩
  · by_cases c2 : (bd - t) / 8 < wd
    · have e : growF t wd bs bd = bd + 1 := by unfold growF; rw [if_pos (.inr c2)]
      rw [e]
      go_enter Try.func26, Try.ntmps26
      go_wp2
      go_ret
      exact ⟨rfl, rfl⟩
    · by_cases c3 : bd - (t + 8 * wd) < bs
      · have e : growF t wd bs bd = bd + 1 := by unfold growF; rw [if_neg (by omega), if_pos c3]
        rw [e]
        go_enter Try.func26, Try.ntmps26
        go_wp2
        go_ret
        exact ⟨rfl, rfl⟩
      · have e : growF t wd bs bd = t + 8 * wd + bs := by unfold growF; rw [if_neg (by omega), if_neg c3]
        rw [e]
        go_enter Try.func26, Try.ntmps26
        go_wp2
        go_ret
        exact ⟨rfl, rfl⟩

/-- Some int within the bounds came back. -/
def IntIn (e : Ending) (bd : Int) : Prop := ∃ x : Int, e = .returned (.int .i64 x) ∧ 0 ≤ x ∧ x ≤ bd
theorem intIn {e : Ending} {bd x : Int} (h : e = .returned (.int .i64 x)) (h0 : 0 ≤ x) (h1 : x ≤ bd) : IntIn e bd := ⟨x, h, h0, h1⟩
/-- Only draws. -/
def Drawn (w w' : World) : Prop := ∃ n, w' = w.drewN n
theorem drawn (w : World) (n : Nat) : Drawn w (w.drewN n) := ⟨n, rfl⟩

theorem mem_sum : ∀ (l : List Nat) (x : Nat), x ∈ l → x ≤ l.sum
  | [], x, h => by cases h
  | y :: l, x, h => by
    rw [List.sum_cons]
    rcases List.mem_cons.1 h with rfl | h
    · omega
    · have := mem_sum l x h
      omega
theorem wCand_le (cs : List CandD) (k : Nat) (c : CandD) (h : cs[k]? = some c) : wCand c ≤ wCands cs :=
  mem_sum _ _ (List.mem_map_of_mem (List.mem_of_getElem? h))
theorem wTok_le (ts : List TokD) (k : Nat) (t : TokD) (h : ts[k]? = some t) : wTok t ≤ wToks ts :=
  mem_sum _ _ (List.mem_map_of_mem (List.mem_of_getElem? h))

theorem drewN_zero (w : World) : w.drewN 0 = w := rfl

set_option maxHeartbeats 4000000 in
theorem cands_any (ao : Option Addr) (n cap B : Nat) (o : Option (List CandD)) (bd : Int) (w : World) (h4 : 0 ≤ bd) (h4' : bd ≤ 1048576) (hC : InCands w B ao n o) (hw : n + wCands (oCands o) ≤ 1048576) :
    Calls Try.prog 7 #[.slice ao n cap, .int .i64 bd] w fun e w' => IntIn e (bd + 1) ∧ Drawn w w' := by
  rcases hC with ⟨rfl, rfl, rfl⟩ | ⟨b, off, sp, cs, rfl, rfl, hl, hn, hc⟩
  · go_enter Try.func7, Try.ntmps7
    go_wp2_with fail
    refine wp_loop_rounds 1 ?_
    rw [rounds_succ]
    go_wp2_with fail
    go_ret
    exact ⟨intIn rfl (by omega) (by omega), drawn w 0⟩
  · have HL := hid hl
    have HC := hid hc
    have hw' : n + wCands cs ≤ 1048576 := hw
    clear hl hc hw
    go_enter Try.func7, Try.ntmps7
    go_wp2_with fail
    go_loopw [5, 9] (fun vz vi wr => ∃ (k q : Nat) (z : Int), k ≤ n ∧ vi = .int .i64 k ∧ vz = .int .i64 z ∧ 0 ≤ z ∧ z ≤ bd ∧ wr = w.drewN q) (fun _ vi _ => n - (intOf vi).toNat)
    case atStart => exact ⟨0, 0, 0, Nat.zero_le _, rfl, rfl, by omega, h4, rfl⟩
    case round =>
      obtain ⟨k, q, z, hk, rfl, rfl, hz0, hz1, hwr⟩ := hrel
      by_cases hlt : k < n
      · obtain ⟨c, hcc⟩ : ∃ c, cs[k]? = some c := ⟨cs[k]'(by rw [HL.out]; exact hlt), List.getElem?_eq_getElem _⟩
        obtain ⟨a5, m5, k5, hsp, hb5, g4, g5, g6, ⟨gI, gts, gm5, _, _⟩⟩ := HC.out k c hcc
        have hcw : c.tok.size + m5 ≤ wCands cs := by
          have h1 := wCand_le cs k c hcc
          have h2 := gI.olen
          unfold wCand at h1
          omega
        obtain rfl := hsp
        have hg := grow_any z (6 + (m5 : Int)) (c.tok.size : Int) bd
        have g4' : wr.cell? ⟨b, off + k * 3, none⟩ = some (.string c.tok) := by rw [hwr]; exact g4
        have g6' : wr.cell? ⟨b, off + k * 3 + 2, none⟩ = some (.slice a5 m5 k5) := by rw [hwr]; exact g6
        have HWr := hid hwr
        clear hwr hcc gI g4 g5 g6
        have hki : (k : Int) < (n : Int) := by omega
        go_wp2_with fail
        have Hg := hid (fun W => (hg W hz0 (by omega) (by omega) (by omega) (by omega) (by omega) h4 (by omega)).mono (R' := fun e w' => e = .returned (.int .i64 (growF z (6 + (m5 : Int)) (c.tok.size : Int) bd)) ∧ w' = W) (fun _ _ h => ⟨h.1, h.2.symm⟩))
        have hgb := growF_bd z (6 + (m5 : Int)) (c.tok.size : Int) bd hz0 (by omega) (by omega) h4
        clear hg
        obtain ⟨x, hx⟩ : ∃ x, x = growF z (6 + (m5 : Int)) (c.tok.size : Int) bd := ⟨_, rfl⟩
        rw [← hx] at hgb Hg
        clear hx
        go_quiet ((go_at_call 26; exact Calls.quiet_of_same (Hg.out _)))
        by_cases hxb : bd < x
        · go_wp2_with fail
          go_ret
          have hd := HWr.out
          subst hd
          exact ⟨intIn rfl hgb.1 hgb.2, _, World.drewN_drewN _ _ _⟩
        · go_wp2_with fail
          go_roundw
          case rel => exact ⟨k + 1, q + nq, x, by omega, by go_num, rfl, hgb.1, by omega, by rw [HWr.out, World.drewN_drewN]⟩
          case measure => simp [intOf]; omega
      · go_wp2_with fail
        go_ret
        exact ⟨intIn rfl hz0 (by omega), q, rfl⟩

theorem InCands.drawn {w w' : World} {B : Nat} {ao : Option Addr} {n : Nat} {o : Option (List CandD)} (h : InCands w B ao n o) (hd : ∀ p, w'.cell? p = w.cell? p) : InCands w' B ao n o := by
  rcases h with h | ⟨b, off, sp, cs, h1, h2, h3, h3', h4⟩
  · exact .inl h
  · refine .inr ⟨b, off, sp, cs, h1, h2, h3, h3', fun i c hi => ?_⟩
    obtain ⟨a, m, k, g2, g3, g4, g5, g6, g7, g8⟩ := h4 i c hi
    refine ⟨a, m, k, g2, g3, (hd _).trans g4, (hd _).trans g5, (hd _).trans g6, ?_, g8⟩
    rcases g7 with g | ⟨b, off, sp, xs, f1, f2, f3, f4, f5⟩
    · exact .inl g
    · exact .inr ⟨b, off, sp, xs, f1, f2, f3, fun i hi => ⟨(f4 i hi).1, (f4 i hi).2.1, (hd _).trans (f4 i hi).2.2⟩, f5⟩

set_option maxHeartbeats 8000000 in
set_option maxRecDepth 100000 in
theorem toks_any (ao : Option Addr) (n cap B : Nat) (ts : List TokD) (w : World) (hT : InToks w B ao n ts) (hw : n + wToks ts ≤ 1048576) :
    Calls Try.prog 13 #[.slice ao n cap, .int .i64 524288] w fun e w' => IntIn e 524289 ∧ Drawn w w' := by
  rcases hT with ⟨rfl, rfl, rfl⟩ | ⟨b, off, sp, rfl, hl, hn, ht⟩
  · go_enter Try.func13, Try.ntmps13
    go_wp2_with fail
    refine wp_loop_rounds 1 ?_
    rw [rounds_succ]
    go_wp2_with fail
    go_ret
    exact ⟨intIn rfl (by omega) (by omega), drawn w 0⟩
  · have HL := hid hl
    have HT := hid ht
    clear hl ht
    go_enter Try.func13, Try.ntmps13
    go_wp2_with fail
    go_loopw [5, 9] (fun vz vi wr => ∃ (k q : Nat) (z : Int), k ≤ n ∧ vi = .int .i64 k ∧ vz = .int .i64 z ∧ 0 ≤ z ∧ z ≤ 524288 ∧ wr = w.drewN q) (fun _ vi _ => n - (intOf vi).toNat)
    case atStart => exact ⟨0, 0, 0, Nat.zero_le _, rfl, rfl, by omega, by omega, rfl⟩
    case round =>
      obtain ⟨k, q, z, hk, rfl, rfl, hz0, hz1, hwr⟩ := hrel
      by_cases hlt : k < n
      · obtain ⟨t, ht⟩ : ∃ t, ts[k]? = some t := ⟨ts[k]'(by rw [HL.out]; exact hlt), List.getElem?_eq_getElem _⟩
        obtain ⟨hsp, hb, ba, bn, bc, ca, cn, cc, ⟨q0, q1, q2, q3⟩, ⟨hI, hts, hbn, _, _⟩, hC, _⟩ := HT.out k t ht
        have hcw : t.tok.size + bn + cn + wCands (oCands t.cands) ≤ wToks ts := by
          have h1 := wTok_le ts k t ht
          have h2 := hI.olen
          have h3 := hC.olen
          unfold wTok at h1
          omega
        obtain rfl := hsp
        have q0' : wr.cell? ⟨b, off + k * 4, none⟩ = some (.string t.tok) := by rw [hwr]; exact q0
        have q2' : wr.cell? ⟨b, off + k * 4 + 2, none⟩ = some (.slice ba bn bc) := by rw [hwr]; exact q2
        have q3' : wr.cell? ⟨b, off + k * 4 + 3, none⟩ = some (.slice ca cn cc) := by rw [hwr]; exact q3
        have HCr := hid (hC.drawn (w' := wr) (fun p => by rw [hwr]; rfl))
        have HWr := hid hwr
        clear hwr ht hI hC q0 q1 q2 q3
        have hki : (k : Int) < (n : Int) := by omega
        have hgb := growF_bd z (9 + (bn : Int)) (t.tok.size : Int) 524288 hz0 (by omega) (by omega) (by omega)
        have Hg := hid (fun W => (grow_any z (9 + (bn : Int)) (t.tok.size : Int) 524288 W hz0 (by omega) (by omega) (by omega) (by omega) (by omega) (by omega) (by omega)).mono (R' := fun e w' => e = .returned (.int .i64 (growF z (9 + (bn : Int)) (t.tok.size : Int) 524288)) ∧ w' = W) (fun _ _ h => ⟨h.1, h.2.symm⟩))
        obtain ⟨x, hx⟩ : ∃ x, x = growF z (9 + (bn : Int)) (t.tok.size : Int) 524288 := ⟨_, rfl⟩
        rw [← hx] at hgb Hg
        clear hx
        go_wp2_with fail
        go_quiet ((go_at_call 26; exact Calls.quiet_of_same (Hg.out _)))
        by_cases hxb : 524288 < x
        · go_wp2_with fail
          go_ret
          have hd := HWr.out
          subst hd
          exact ⟨intIn rfl hgb.1 hgb.2, _, World.drewN_drewN _ _ _⟩
        · go_wp2_with fail
          refine (cands_any ca cn cc B t.cands (524288 - x) (wr.drewN nq) (by omega) (by omega) (HCr.out.drawn (fun p => rfl)) (by omega)).mono ?_
          rintro e w3 ⟨⟨y, rfl, hy0, hy1⟩, ⟨n3, rfl⟩⟩
          go_wp2_with fail
          refine (grow_any x 0 y 524288 _ hgb.1 (by omega) (by omega) (by omega) hy0 (by omega) (by omega) (by omega)).mono ?_
          rintro e w4 ⟨rfl, rfl⟩
          have hgb2 := growF_bd x 0 y 524288 hgb.1 (by omega) hy0 (by omega)
          obtain ⟨v, hv⟩ : ∃ v, v = growF x 0 y 524288 := ⟨_, rfl⟩
          rw [← hv] at hgb2 ⊢
          clear hv
          by_cases hvb : 524288 < v
          · go_wp2_with fail
            go_ret
            have hd := HWr.out
            subst hd
            exact ⟨intIn rfl hgb2.1 hgb2.2, _, by rw [World.drewN_drewN]⟩
          · go_wp2_with fail
            go_roundw
            case rel => exact ⟨k + 1, _, v, by omega, by go_num, rfl, hgb2.1, by omega, by rw [HWr.out, World.drewN_drewN]⟩
            case measure => simp [intOf]; omega
      · go_wp2_with fail
        go_ret
        exact ⟨intIn rfl hz0 (by omega), q, rfl⟩

end Go.Proofs.Qxb6618748a
