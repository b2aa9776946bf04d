/-
  Seat b6618748a: toWireCands, toWireTok, toWireToks.
-/
import Derived.Test.Qxb6618748aMakeUp
namespace Go.Proofs.Qxb6618748a
open Go.RowKit
set_option linter.unusedVariables false
attribute [local go_sem] run_store_float

theorem info68 : (Try.prog.info? 68).map (fun i => (i.zero, i.size, i.bytes)) = some (some (.agg #[.string ByteArray.empty, .float .f64 0, .slice none 0 0]), 3, 48) := by kernel_rfl
theorem info31 : (Try.prog.info? 31).map (fun i => (i.zero, i.size, i.bytes)) = some (some (.agg #[.string ByteArray.empty, .float .f64 0, .slice none 0 0, .slice none 0 0]), 4, 72) := by kernel_rfl

theorem made_size (z : Array Value) (n : Nat) : (madeCells z n).size = n := by simp [madeCells]

/-- 'make([]wire.TopLogprob, n)'. -/
theorem make68 (n : Nat) (hn : n ≤ 1048576) : ∃ arr : Array Value, arr.size = n * 3 ∧ ∀ W, (Instr.makeSlice 29 (.int .i64 (n : Int)) (.int .i64 (n : Int))).run Try.prog W = .ok (.slice (some ⟨W.heap.size, 0, none⟩) n n) (W.alloc (.cells arr 68)) := by
  obtain ⟨i0, hi, hz0, hz1, hz2⟩ := info_parts info68
  refine ⟨madeCells (Value.agg #[.string ByteArray.empty, .float .f64 0, .slice none 0 0]).cells (n * i0.size), by rw [made_size, hz1], fun W => ?_⟩
  have h := run_make (P := Try.prog) W 29 68 i0 _ Try.underlying29 hi hz0 .i64 .i64 (n : Int) (n : Int) (by omega) (by omega) (by rw [hz2]; omega) (by omega)
  simpa using h
theorem make31 (n : Nat) (hn : n ≤ 1048576) : ∃ arr : Array Value, arr.size = n * 4 ∧ ∀ W, (Instr.makeSlice 43 (.int .i64 (n : Int)) (.int .i64 (n : Int))).run Try.prog W = .ok (.slice (some ⟨W.heap.size, 0, none⟩) n n) (W.alloc (.cells arr 31)) := by
  obtain ⟨i0, hi, hz0, hz1, hz2⟩ := info_parts info31
  refine ⟨madeCells (Value.agg #[.string ByteArray.empty, .float .f64 0, .slice none 0 0, .slice none 0 0]).cells (n * i0.size), by rw [made_size, hz1], fun W => ?_⟩
  have h := run_make (P := Try.prog) W 43 31 i0 _ Try.underlying43 hi hz0 .i64 .i64 (n : Int) (n : Int) (by omega) (by omega) (by rw [hz2]; omega) (by omega)
  simpa using h

/-- Candidate c stands at place i of a row. -/
def CandIn (w : World) (B : Nat) (arr : Array Value) (i : Nat) (c : CandD) : Prop :=
  ∃ a m k, arr[i * 3]? = some (.string c.tok) ∧ arr[i * 3 + 1]? = some (.float .f64 c.bits) ∧ arr[i * 3 + 2]? = some (.slice a m k) ∧ InText w B c.tok c.bits c.bytes a m k

theorem box_set {w : World} {b : Nat} {arr : Array Value} {ty : TypeId} {fz : Nat × Nat} (h : w.heap[b]? = some (.cells arr ty fz)) (i : Nat) (v : Value) : (w.setCell ⟨b, i, none⟩ v).heap[b]? = some (.cells (arr.setIfInBounds i v) ty fz) := by
  simp only [World.setCell, Array.getElem?_modify, h]
  rfl

theorem cand_step {w : World} {B : Nat} {arr : Array Value} {k n : Nat} {cs : List CandD} {c : CandD} {a : Option Addr} {m l : Nat} (hsz : arr.size = n * 3) (hk : k < n) (hQ : ∀ i c, i < k → cs[i]? = some c → CandIn w B arr i c) (hc : cs[k]? = some c) (hT : InText w B c.tok c.bits c.bytes a m l) :
    ∀ i c', i < k + 1 → cs[i]? = some c' → CandIn w B (((arr.setIfInBounds (k * 3) (.string c.tok)).setIfInBounds (k * 3 + 1) (.float .f64 c.bits)).setIfInBounds (k * 3 + 2) (.slice a m l)) i c' := by
  intro i c' hi hc'
  by_cases hik : i = k
  · subst hik
    rw [hc] at hc'
    obtain rfl := Option.some.inj hc'
    refine ⟨a, m, l, ?_, ?_, ?_, hT⟩
    · simp only [Array.getElem?_setIfInBounds, Array.size_setIfInBounds]
      rw [if_neg (by omega), if_neg (by omega), if_pos trivial, if_pos (by omega)]
    · simp only [Array.getElem?_setIfInBounds, Array.size_setIfInBounds]
      rw [if_neg (by omega), if_pos trivial, if_pos (by omega)]
    · simp only [Array.getElem?_setIfInBounds, Array.size_setIfInBounds]
      rw [if_pos trivial, if_pos (by omega)]
  · obtain ⟨a', m', l', h0, h1, h2, h3⟩ := hQ i c' (by omega) hc'
    refine ⟨a', m', l', ?_, ?_, ?_, h3⟩
    · simp only [Array.getElem?_setIfInBounds]
      rw [if_neg (by omega), if_neg (by omega), if_neg (by omega)]
      exact h0
    · simp only [Array.getElem?_setIfInBounds]
      rw [if_neg (by omega), if_neg (by omega), if_neg (by omega)]
      exact h1
    · simp only [Array.getElem?_setIfInBounds]
      rw [if_neg (by omega), if_neg (by omega), if_neg (by omega)]
      exact h2

/-- From what came in to what the packing asks. -/
theorem InText.text {w w' : World} {B P : Nat} {tok : ByteArray} {bits : Nat} {bytes : Option (List Int)} {a : Option Addr} {n c : Nat} (h : InText w B tok bits bytes a n c) (hb : Below B w w') (hP : B ≤ P) (hw : tok.size + olen bytes ≤ 1048576) : TextAt w' P tok bits bytes a n c := by
  have h1 := h.1.olen
  exact ⟨(h.1.below hb).mono hP, by omega, by omega, h.2.2.2.1, h.2.2.2.2⟩

/-- The candidates that toWireCands has made: nil, or a row in block C that holds them; their bytes are those that came in (in the world w0). -/
def WCands (w0 : World) (B C : Nat) (a : Option Addr) (n : Nat) (o : Option (List CandD)) (w : World) : Prop :=
  (a = none ∧ n = 0 ∧ o = none) ∨
  ∃ cs arr, a = some ⟨C, 0, none⟩ ∧ o = some cs ∧ cs.length = n ∧ n + wCands cs ≤ 1048576 ∧ w.heap[C]? = some (.cells arr 68 (0, 0)) ∧ ∀ i c, cs[i]? = some c → CandIn w0 B arr i c

theorem WCands.kept {w0 w w' : World} {B C : Nat} {a : Option Addr} {n : Nat} {o : Option (List CandD)} (h : WCands w0 B C a n o w) (hk : ∀ x, w.heap[C]? = some x → w'.heap[C]? = some x) : WCands w0 B C a n o w' := by
  rcases h with h | ⟨cs, arr, h1, h2, h3, h4, h5, h6⟩
  · exact .inl h
  · exact .inr ⟨cs, arr, h1, h2, h3, h4, hk _ h5, h6⟩

theorem WCands.cands {w0 w : World} {B C P : Nat} {a : Option Addr} {n : Nat} {o : Option (List CandD)} (h : WCands w0 B C a n o w) (hb : Below B w0 w) (hBP : B ≤ P) (hwP : w.heap.size ≤ P) : CandsAt w P a n o := by
  rcases h with h | ⟨cs, arr, h1, h2, h3, h4, h5, h6⟩
  · exact .inl h
  · have hCP : C < P := Nat.lt_of_lt_of_le (Array.getElem?_eq_some_iff.1 h5).1 hwP
    refine .inr ⟨C, 0, none, cs, h1, h2, h3, by omega, fun i hi => ?_⟩
    obtain ⟨c, hcc⟩ : ∃ c, cs[i]? = some c := ⟨cs[i]'(by omega), List.getElem?_eq_getElem _⟩
    obtain ⟨a, m, l, g0, g1, g2, g3⟩ := h6 i c hcc
    have hcw := wCand_le cs i c hcc
    unfold wCand at hcw
    refine ⟨c, a, m, l, hcc, rfl, hCP, ?_, ?_, ?_, g3.text hb hBP (by omega)⟩
    · rw [Nat.zero_add, box_cell h5]; exact g0
    · rw [Nat.zero_add, box_cell h5]; exact g1
    · rw [Nat.zero_add, box_cell h5]; exact g2

set_option maxHeartbeats 4000000 in
set_option maxRecDepth 100000 in
theorem wireCands_any (ao : Option Addr) (n cap B : Nat) (o : Option (List CandD)) (w0 w : World) (hB : B ≤ w.heap.size) (h0 : Below B w0 w) (hC : InCands w0 B ao n o) (hw : n + wCands (oCands o) ≤ 1048576) :
    Calls Try.prog 27 #[.slice ao n cap] w fun e w' => (∃ a', e = .returned (.slice a' n n) ∧ WCands w0 B w.heap.size a' n o w' ∧ (a' = none → n = 0)) ∧ Fr w.heap.size none w w' := by
  have hne := Lib.run_eql_slice_nil (P := Try.prog)
  rcases hC with ⟨rfl, rfl, rfl⟩ | ⟨b, off, sp, cs, rfl, rfl, hl, hn, hc⟩
  · go_enter Try.func27, Try.ntmps27
    go_wp2
    go_ret
    exact ⟨⟨none, rfl, .inl ⟨rfl, rfl, rfl⟩, fun _ => trivial⟩, Fr.refl _ _ _⟩
  · have hw' : n + wCands cs ≤ 1048576 := hw
    obtain ⟨arr0, hsz0, hmk⟩ := make68 n (by omega)
    have HL := hid hl
    have HC := hid hc
    have HS0 := hid hsz0
    clear hl hc hw hsz0
    go_enter Try.func27, Try.ntmps27
    go_wp2_with fail
    go_loopw [12] (fun vi wr => ∃ (k : Nat) (arr : Array Value), k ≤ n ∧ vi = .int .i64 k ∧ wr.heap[w.heap.size]? = some (.cells arr 68 (0, 0)) ∧ arr.size = n * 3 ∧ Hid (∀ i c, i < k → cs[i]? = some c → CandIn w0 B arr i c) ∧ Fr w.heap.size none w wr) (fun vi _ => n - (intOf vi).toNat)
    case atStart => exact ⟨0, arr0, Nat.zero_le _, rfl, box_new w _, HS0.out, fun i c h => by omega, (Fr.refl _ _ w).alloc (Nat.le_refl _) _⟩
    case round =>
      obtain ⟨k, arr, hk, rfl, hbx, hsz, HQ, hfr⟩ := hrel
      by_cases hlt : k < n
      · obtain ⟨c, hcc⟩ : ∃ c, cs[k]? = some c := ⟨cs[k]'(by rw [HL.out]; exact hlt), List.getElem?_eq_getElem _⟩
        obtain ⟨a5, m5, k5, hsp, hb5, g4, g5, g6, gT⟩ := HC.out k c hcc
        have h0r : Below B w0 wr := h0.trans (hfr.1.mono hB)
        have g4' := (h0r.cell (p := ⟨b, off + k * 3, none⟩) hb5).trans g4
        have g5' := (h0r.cell (p := ⟨b, off + k * 3 + 1, none⟩) hb5).trans g5
        have g6' := (h0r.cell (p := ⟨b, off + k * 3 + 2, none⟩) hb5).trans g6
        obtain rfl := hsp
        have hd0 := box_cell hbx (k * 3)
        have hd1 := box_cell hbx (k * 3 + 1)
        have hd2 := box_cell hbx (k * 3 + 2)
        have hf0 := box_free hbx (k * 3)
        have hf1 := box_free hbx (k * 3 + 1)
        have hf2 := box_free hbx (k * 3 + 2)
        obtain ⟨v0, hv0⟩ : ∃ v, arr[k * 3]? = some v := ⟨arr[k * 3]'(by omega), Array.getElem?_eq_getElem _⟩
        obtain ⟨v1, hv1⟩ : ∃ v, arr[k * 3 + 1]? = some v := ⟨arr[k * 3 + 1]'(by omega), Array.getElem?_eq_getElem _⟩
        obtain ⟨v2, hv2⟩ : ∃ v, arr[k * 3 + 2]? = some v := ⟨arr[k * 3 + 2]'(by omega), Array.getElem?_eq_getElem _⟩
        rw [hv0] at hd0
        rw [hv1] at hd1
        rw [hv2] at hd2
        have HBX := hid hbx
        have HSZ := hid hsz
        have HCC := hid hcc
        have GT := hid gT
        have hbw : ¬ b = w.heap.size := by omega
        clear hbx hsz hcc gT g4 g5 g6 hv0 hv1 hv2
        have hki : (k : Int) < (n : Int) := by omega
        go_wp2_with fail
        go_region
        go_wp2_with fail
        go_roundw
        case rel =>
          refine ⟨k + 1, _, by omega, by go_num, box_set (box_set (box_set HBX.out _ _) _ _) _ _, by simp [HSZ.out], cand_step HSZ.out hlt HQ.out HCC.out GT.out, ?_⟩
          exact (((hfr.setNew (Nat.le_refl _) (Nat.le_refl _) _).setNew (Nat.le_refl _) (Nat.le_refl _) _).setNew (Nat.le_refl _) (Nat.le_refl _) _).drew
        case measure => simp [intOf]; omega
      · go_wp2_with fail
        go_ret
        exact ⟨⟨some ⟨w.heap.size, 0, none⟩, rfl, .inr ⟨cs, arr, rfl, rfl, HL.out, hw', hbx, fun i c hic => HQ.out i c (by have := (List.getElem?_eq_some_iff.1 hic).1; have := HL.out; omega) hic⟩, fun h => by cases h⟩, hfr⟩

end Go.Proofs.Qxb6618748a
