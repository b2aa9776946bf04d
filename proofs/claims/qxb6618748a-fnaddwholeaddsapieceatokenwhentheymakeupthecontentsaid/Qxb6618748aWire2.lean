/-
  Seat b6618748a: toWireTok, toWireToks.
-/
import Derived.Test.Qxb6618748aWire
import Derived.Deep.RegionHeld3
namespace Go.Proofs.Qxb6618748a
open Go.RowKit
set_option linter.unusedVariables false
attribute [local go_sem] run_store_float

theorem InCands.below {w w' : World} {B : Nat} {ao : Option Addr} {n : Nat} {o : Option (List CandD)} (h : InCands w B ao n o) (hb : Below B w w') : InCands w' B ao n o := by
  rcases h with h | ⟨b, off, sp, cs, h1, h2, h3, h3', h4⟩
  · exact .inl h
  · refine .inr ⟨b, off, sp, cs, h1, h2, h3, h3', fun i c hi => ?_⟩
    obtain ⟨a, m, k, g2, g3, g4, g5, g6, g7, g8⟩ := h4 i c hi
    exact ⟨a, m, k, g2, g3, (hb.cell (p := ⟨b, off + i * 3, none⟩) g3).trans g4, (hb.cell (p := ⟨b, off + i * 3 + 1, none⟩) g3).trans g5, (hb.cell (p := ⟨b, off + i * 3 + 2, none⟩) g3).trans g6, g7.below hb, g8⟩

theorem CandsAt.mono {w : World} {P P' : Nat} {ao : Option Addr} {n : Nat} {o : Option (List CandD)} (h : CandsAt w P ao n o) (hP : P ≤ P') : CandsAt w P' ao n o := by
  rcases h with h | ⟨b, off, sp, cs, h1, h2, h3, h3', h4⟩
  · exact .inl h
  · refine .inr ⟨b, off, sp, cs, h1, h2, h3, h3', fun i hi => ?_⟩
    obtain ⟨c, a, m, k, g1, g2, g3, g4, g5, g6, g7⟩ := h4 i hi
    exact ⟨c, a, m, k, g1, g2, by omega, g4, g5, g6, g7.1.mono hP, g7.2⟩

set_option maxHeartbeats 4000000 in
set_option maxRecDepth 100000 in
theorem wireTok_any (t : TokD) (ba : Option Addr) (bn bc : Nat) (ca : Option Addr) (cn cc B : Nat) (w0 w : World) (hB : B ≤ w.heap.size) (h0 : Below B w0 w) (hT : InTok w0 B t ba bn bc ca cn cc) (hw : wTok t ≤ 1048576) :
    Calls Try.prog 8 #[.agg #[.string t.tok, .float .f64 t.bits, .slice ba bn bc, .slice ca cn cc]] w fun e w' => (∃ a', e = .returned (.agg #[.string t.tok, .float .f64 t.bits, .slice ba bn bc, .slice a' cn cn]) ∧ WCands w0 B (w.heap.size + 2) a' cn t.cands w' ∧ (a' = none → cn = 0)) ∧ Fr w.heap.size none w w' := by
  have hcw : cn + wCands (oCands t.cands) ≤ 1048576 := by
    have h3 := hT.2.1.olen
    unfold wTok at hw
    omega
  have HT := hid hT
  clear hT
  obtain ⟨W1, hW1⟩ : ∃ W1, W1 = ((w.alloc (.cells #[.string t.tok, .float .f64 t.bits, .slice ba bn bc, .slice ca cn cc] 26)).alloc (.cells #[.string ByteArray.empty, .float .f64 0, .slice none 0 0, .slice none 0 0] 31)) := ⟨_, rfl⟩
  have hfr1 : Fr w.heap.size none w W1 := by rw [hW1]; exact ((Fr.refl _ _ w).alloc (Nat.le_refl _) _).alloc (by simp) _
  have hs1 : W1.heap.size = w.heap.size + 1 + 1 := by rw [hW1]; simp
  have hbx1 : W1.heap[w.heap.size + 1]? = some (.cells #[.string ByteArray.empty, .float .f64 0, .slice none 0 0, .slice none 0 0] 31) := by
    rw [hW1]
    have := box_new (w.alloc (.cells #[.string t.tok, .float .f64 t.bits, .slice ba bn bc, .slice ca cn cc] 26)) (.cells #[.string ByteArray.empty, .float .f64 0, .slice none 0 0, .slice none 0 0] 31)
    simpa using this
  have hbx0 : W1.heap[w.heap.size]? = some (.cells #[.string t.tok, .float .f64 t.bits, .slice ba bn bc, .slice ca cn cc] 26) := by
    rw [hW1]
    have h0 := box_new w (.cells #[.string t.tok, .float .f64 t.bits, .slice ba bn bc, .slice ca cn cc] 26)
    rw [heap_alloc_old _ _ (by simp)]
    exact h0
  have hU := hid (wireCands_any ca cn cc B t.cands w0 W1.drew (by simp; omega) (h0.trans (hfr1.1.mono hB).drew) HT.out.2.1 hcw)
  rw [show W1.drew.heap.size = w.heap.size + 2 from hs1] at hU
  have HK := hid (fun (w3 : World) (hf : Fr (w.heap.size + 2) none W1.drew w3) => hf.box (show W1.drew.heap[w.heap.size + 1]? = _ from hbx1) (by simp) (by decide))
  have HK0 := hid (fun (w3 : World) (hf : Fr (w.heap.size + 2) none W1.drew w3) => hf.box (show W1.drew.heap[w.heap.size]? = _ from hbx0) (by simp) (by decide))
  rw [hW1] at hU HK HK0
  have HW1 := hid hW1
  clear hW1 hbx1 hbx0
  go_enter Try.func8, Try.ntmps8
  go_wp2_with fail
  go_region_held3 (fun w' => w'.cell? ⟨w.heap.size, 0, none⟩ = some (.string t.tok) ∧ w'.cell? ⟨w.heap.size, 1, none⟩ = some (.float .f64 t.bits) ∧ w'.cell? ⟨w.heap.size, 2, none⟩ = some (.slice ba bn bc) ∧ w'.cell? ⟨w.heap.size, 3, none⟩ = some (.slice ca cn cc)) (go_keep) ((go_at_call 27; refine hU.out.mono ?_; rintro e w3 ⟨⟨a3, rfl, hC3, hn3⟩, hfr3⟩; have hK0 := HK0.out w3 hfr3; have hp0 := box_cell hK0 0; have hp1 := box_cell hK0 1; have hp2 := box_cell hK0 2; have hp3 := box_cell hK0 3; have hK := HK.out w3 hfr3; have hq0 := box_cell hK 0; have hq1 := box_cell hK 1; have hq2 := box_cell hK 2; have hq3 := box_cell hK 3; have hr0 := box_free hK 0; have hr1 := box_free hK 1; have hr2 := box_free hK 2; have hr3 := box_free hK 3; simp only [List.getElem?_toArray, List.getElem?_cons_succ, List.getElem?_cons_zero] at hq0 hq1 hq2 hq3 hp0 hp1 hp2 hp3; have HQ := hid hK; clear hK hK0))
  go_wp2_with fail
  refine bodyPost_ret (v := .agg #[.string t.tok, .float .f64 t.bits, .slice ba bn bc, .slice a3 cn cn]) (by simp [results, Try.results8, go_sem, hq0, hq1, hq2, hq3]) rfl ⟨⟨a3, rfl, ?_, hn3⟩, ?_⟩
  · refine hC3.kept (fun x hx => ?_)
    rw [Below.heap_setCell _ _ _ _ (by simp), Below.heap_setCell _ _ _ _ (by simp), Below.heap_setCell _ _ _ _ (by simp), Below.heap_setCell _ _ _ _ (by simp)]
    exact hx
  · have hfr4 : Fr w.heap.size none w w3 := by
      refine Fr.trans (w1 := W1) hfr1 ?_
      have h := HW1.out
      rw [h]
      have h2 : Fr w.heap.size none ((w.alloc (.cells #[.string t.tok, .float .f64 t.bits, .slice ba bn bc, .slice ca cn cc] 26)).alloc (.cells #[.string ByteArray.empty, .float .f64 0, .slice none 0 0, .slice none 0 0] 31)).drew w3 := hfr3.mono (by omega)
      exact (Fr.refl _ _ _).drew.trans h2
    exact (((hfr4.setNew (by simp) (by simp) _).setNew (by simp) (by simp) _).setNew (by simp) (by simp) _).setNew (by simp) (by simp) _

/-- Token t stands at place i of the row that toWireToks fills. -/
def TokIn (w0 : World) (B O : Nat) (w : World) (arr : Array Value) (i : Nat) (t : TokD) : Prop :=
  ∃ ba bn bc ca cn C, arr[i * 4]? = some (.string t.tok) ∧ arr[i * 4 + 1]? = some (.float .f64 t.bits) ∧ arr[i * 4 + 2]? = some (.slice ba bn bc) ∧ arr[i * 4 + 3]? = some (.slice ca cn cn) ∧
    InText w0 B t.tok t.bits t.bytes ba bn bc ∧ O < C ∧ WCands w0 B C ca cn t.cands w ∧ (ca = none → cn = 0)

theorem TokIn.kept {w0 w w' : World} {B O : Nat} {arr : Array Value} {i : Nat} {t : TokD} (h : TokIn w0 B O w arr i t) (hk : ∀ C x, O < C → w.heap[C]? = some x → w'.heap[C]? = some x) : TokIn w0 B O w' arr i t := by
  obtain ⟨ba, bn, bc, ca, cn, C, h0, h1, h2, h3, h4, h5, h7, h8⟩ := h
  exact ⟨ba, bn, bc, ca, cn, C, h0, h1, h2, h3, h4, h5, h7.kept (fun x hx => hk C x h5 hx), h8⟩

theorem tok_step {w0 w : World} {B O : Nat} {arr : Array Value} {k n : Nat} {ts : List TokD} {t : TokD} {ba : Option Addr} {bn bc : Nat} {ca : Option Addr} {cn C : Nat} (hsz : arr.size = n * 4) (hk : k < n) (hQ : ∀ i t, i < k → ts[i]? = some t → TokIn w0 B O w arr i t) (ht : ts[k]? = some t)
    (hT : InText w0 B t.tok t.bits t.bytes ba bn bc) (hO : O < C) (hW : WCands w0 B C ca cn t.cands w) (hn : ca = none → cn = 0) :
    ∀ i t', i < k + 1 → ts[i]? = some t' → TokIn w0 B O w ((((arr.setIfInBounds (k * 4) (.string t.tok)).setIfInBounds (k * 4 + 1) (.float .f64 t.bits)).setIfInBounds (k * 4 + 2) (.slice ba bn bc)).setIfInBounds (k * 4 + 3) (.slice ca cn cn)) i t' := by
  intro i t' hi ht'
  by_cases hik : i = k
  · subst hik
    rw [ht] at ht'
    obtain rfl := Option.some.inj ht'
    refine ⟨ba, bn, bc, ca, cn, C, ?_, ?_, ?_, ?_, hT, hO, hW, hn⟩
    · simp only [Array.getElem?_setIfInBounds, Array.size_setIfInBounds]
      rw [if_neg (by omega), if_neg (by omega), if_neg (by omega), if_pos trivial, if_pos (by omega)]
    · simp only [Array.getElem?_setIfInBounds, Array.size_setIfInBounds]
      rw [if_neg (by omega), if_neg (by omega), if_pos trivial, if_pos (by omega)]
    · simp only [Array.getElem?_setIfInBounds, Array.size_setIfInBounds]
      rw [if_neg (by omega), if_pos trivial, if_pos (by omega)]
    · simp only [Array.getElem?_setIfInBounds, Array.size_setIfInBounds]
      rw [if_pos trivial, if_pos (by omega)]
  · obtain ⟨ba', bn', bc', ca', cn', C', h0, h1, h2, h3, h4⟩ := hQ i t' (by omega) ht'
    refine ⟨ba', bn', bc', ca', cn', C', ?_, ?_, ?_, ?_, h4⟩
    · simp only [Array.getElem?_setIfInBounds]
      rw [if_neg (by omega), if_neg (by omega), if_neg (by omega), if_neg (by omega)]
      exact h0
    · simp only [Array.getElem?_setIfInBounds]
      rw [if_neg (by omega), if_neg (by omega), if_neg (by omega), if_neg (by omega)]
      exact h1
    · simp only [Array.getElem?_setIfInBounds]
      rw [if_neg (by omega), if_neg (by omega), if_neg (by omega), if_neg (by omega)]
      exact h2
    · simp only [Array.getElem?_setIfInBounds]
      rw [if_neg (by omega), if_neg (by omega), if_neg (by omega), if_neg (by omega)]
      exact h3

set_option maxHeartbeats 4000000 in
set_option maxRecDepth 100000 in
theorem wireToks_any (ao : Option Addr) (n cap B : Nat) (ts : List TokD) (w : World) (hB : B ≤ w.heap.size) (hT : InToks w B ao n ts) (hw : n + wToks ts ≤ 1048576) :
    Calls Try.prog 15 #[.slice ao n cap] w fun e w' => (∃ a', e = .returned (.slice a' n n) ∧ (0 < n → a' = some ⟨w.heap.size, 0, none⟩) ∧ ToksIn w' w.heap.size w'.heap.size ts) ∧ Fr w.heap.size none w w' := by
  have hne := Lib.run_eql_slice_nil (P := Try.prog)
  rcases hT with ⟨rfl, rfl, rfl⟩ | ⟨b, off, sp, rfl, hl, hn, ht⟩
  · go_enter Try.func15, Try.ntmps15
    go_wp2
    go_ret
    exact ⟨⟨none, rfl, fun h => by omega, fun i t h => by simp at h⟩, Fr.refl _ _ _⟩
  · obtain ⟨arr0, hsz0, hmk⟩ := make31 n (by omega)
    have HL := hid hl
    have HT := hid ht
    have HS0 := hid hsz0
    clear hl ht hsz0
    go_enter Try.func15, Try.ntmps15
    go_wp2_with fail
    go_loopw [12] (fun vi wr => ∃ (k : Nat) (arr : Array Value), k ≤ n ∧ vi = .int .i64 k ∧ wr.heap[w.heap.size]? = some (.cells arr 31 (0, 0)) ∧ arr.size = n * 4 ∧ Hid (∀ i t, i < k → ts[i]? = some t → TokIn w B w.heap.size wr arr i t) ∧ Fr w.heap.size none w wr) (fun vi _ => n - (intOf vi).toNat)
    case atStart => exact ⟨0, arr0, Nat.zero_le _, rfl, box_new w _, HS0.out, fun i c h => by omega, (Fr.refl _ _ w).alloc (Nat.le_refl _) _⟩
    case round =>
      obtain ⟨k, arr, hk, rfl, hbx, hsz, HQ, hfr⟩ := hrel
      have hws : w.heap.size < wr.heap.size := (Array.getElem?_eq_some_iff.1 hbx).1
      by_cases hlt : k < n
      · obtain ⟨t, htt⟩ : ∃ t, ts[k]? = some t := ⟨ts[k]'(by rw [HL.out]; exact hlt), List.getElem?_eq_getElem _⟩
        obtain ⟨hsp, hbB, ba, bn, bc, ca, cn, cc, hTC, hIT⟩ := HT.out k t htt
        have h0r : Below B w wr := hfr.1.mono hB
        obtain ⟨q0, q1, q2, q3⟩ := hTC.below h0r hbB
        have htw := wTok_le ts k t htt
        obtain rfl := hsp
        have HBX := hid hbx
        have HSZ := hid hsz
        have HTT := hid htt
        have HIT := hid hIT
        clear hbx hsz htt hIT hTC
        have hki : (k : Int) < (n : Int) := by omega
        go_wp2_with fail
        refine (wireTok_any t ba bn bc ca cn cc B w wr (by omega) h0r HIT.out (by omega)).mono ?_
        rintro e w3 ⟨⟨a3, rfl, hW3, hn3⟩, hfr3⟩
        have hbx3 := hfr3.box HBX.out (by simp) (by decide)
        have hs3 := hfr3.1.size
        have hd0 := box_cell hbx3 (k * 4)
        have hd1 := box_cell hbx3 (k * 4 + 1)
        have hd2 := box_cell hbx3 (k * 4 + 2)
        have hd3 := box_cell hbx3 (k * 4 + 3)
        have hf0 := box_free hbx3 (k * 4)
        have hf1 := box_free hbx3 (k * 4 + 1)
        have hf2 := box_free hbx3 (k * 4 + 2)
        have hf3 := box_free hbx3 (k * 4 + 3)
        have hsz := HSZ.out
        obtain ⟨v0, hv0⟩ : ∃ v, arr[k * 4]? = some v := ⟨arr[k * 4]'(by omega), Array.getElem?_eq_getElem _⟩
        obtain ⟨v1, hv1⟩ : ∃ v, arr[k * 4 + 1]? = some v := ⟨arr[k * 4 + 1]'(by omega), Array.getElem?_eq_getElem _⟩
        obtain ⟨v2, hv2⟩ : ∃ v, arr[k * 4 + 2]? = some v := ⟨arr[k * 4 + 2]'(by omega), Array.getElem?_eq_getElem _⟩
        obtain ⟨v3, hv3⟩ : ∃ v, arr[k * 4 + 3]? = some v := ⟨arr[k * 4 + 3]'(by omega), Array.getElem?_eq_getElem _⟩
        rw [hv0] at hd0
        rw [hv1] at hd1
        rw [hv2] at hd2
        rw [hv3] at hd3
        have HB3 := hid hbx3
        have HN3 := hid hn3
        clear hbx3 hsz hv0 hv1 hv2 hv3 hn3
        go_wp2_with fail
        go_roundw
        case rel =>
          refine ⟨k + 1, _, by omega, by go_num, box_set (box_set (box_set (box_set HB3.out _ _) _ _) _ _) _ _, by simp [HSZ.out], ?_, ?_⟩
          · have hkeep : ∀ C x, w.heap.size < C → w3.heap[C]? = some x → ((((w3.setCell ⟨w.heap.size, k * 4, none⟩ (.string t.tok)).setCell ⟨w.heap.size, k * 4 + 1, none⟩ (.float .f64 t.bits)).setCell ⟨w.heap.size, k * 4 + 2, none⟩ (.slice ba bn bc)).setCell ⟨w.heap.size, k * 4 + 3, none⟩ (.slice a3 cn cn)).heap[C]? = some x := by
              intro C x hC hx
              rw [Below.heap_setCell _ _ _ _ (by simp; omega), Below.heap_setCell _ _ _ _ (by simp; omega), Below.heap_setCell _ _ _ _ (by simp; omega), Below.heap_setCell _ _ _ _ (by simp; omega)]
              exact hx
            refine tok_step HSZ.out hlt (fun i t' hi ht' => ?_) HTT.out HIT.out.1 (C := wr.heap.size + 2) (by omega) (hW3.kept (fun x hx => hkeep _ x (by omega) hx)) HN3.out
            refine (HQ.out i t' hi ht').kept (fun C x hC hx => hkeep C x hC ?_)
            have hlt' : C < wr.heap.size := (Array.getElem?_eq_some_iff.1 hx).1
            rw [hfr3.1.block C hlt']
            exact hx
          · have hfr4 : Fr w.heap.size none w w3 := hfr.trans (hfr3.mono (by omega))
            exact (((hfr4.setNew (Nat.le_refl _) (Nat.le_refl _) _).setNew (Nat.le_refl _) (Nat.le_refl _) _).setNew (Nat.le_refl _) (Nat.le_refl _) _).setNew (Nat.le_refl _) (Nat.le_refl _) _
        case measure => simp [intOf]; omega
      · go_wp2_with fail
        go_ret
        refine ⟨⟨some ⟨w.heap.size, 0, none⟩, rfl, fun _ => rfl, fun i t hit => ?_⟩, hfr⟩
        have hin : i < n := by have := (List.getElem?_eq_some_iff.1 hit).1; have := HL.out; omega
        obtain ⟨ba, bn, bc, ca, cn, C, h0, h1, h2, h3, h4, h5, h7, h8⟩ := HQ.out i t (by omega) hit
        have htw := wTok_le ts i t hit
        unfold wTok at htw
        refine ⟨hws, ba, bn, bc, ca, cn, cn, ⟨?_, ?_, ?_, ?_⟩, h4.text (hfr.1.mono hB) (by omega) (by omega), h7.cands (hfr.1.mono hB) (by omega) (Nat.le_refl _), h8⟩
        · rw [box_cell hbx]; exact h0
        · rw [box_cell hbx]; exact h1
        · rw [box_cell hbx]; exact h2
        · rw [box_cell hbx]; exact h3

end Go.Proofs.Qxb6618748a
