/-
  Seat b6618748a: from the row's reading of the tokens to the memory facts that the walk asks.
-/
import Derived.Test.Qxb6618748aLaw
import Derived.ProofKit
import Derived.OpenShut
import Derived.Deep.Slices
import Derived.Deep.Strs
namespace Go.Proofs.Qxb6618748a
open Go.RowKit Go.Deep Go.ChangeShapes Go.WideShapes
set_option linter.unusedVariables false

section
variable {H : Type} {enc : TypeId × Value → H} {w : World} {spare : Nat → Bool} {held : Bool} {fuel : Nat} {x : DataW H × List MemPlace}

theorem trod_float {P : Program} {base : Nat} {t : TypeId} {cs : List Value} {k : FloatKind} (ht : P.underlying t = some (.float k)) (h : DataW.trod enc P w base spare held fuel t cs = some x) : ∃ n, cs = [.float k n] ∧ (Lit.float k n).wf = true := by
  cases fuel with
  | zero => simp [DataW.trod] at h
  | succ n =>
    unfold DataW.trod at h
    rw [ht] at h
    split at h <;> simp_all

theorem cells1 (t : TypeId) (h : t = 9 ∨ t = 22 ∨ t = 23 ∨ t = 24 ∨ t = 3) : Try.prog.cellsOf t = 1 := by
  rcases h with rfl | rfl | rfl | rfl | rfl <;> kernel_rfl
theorem cells26 : Try.prog.cellsOf 26 = 4 := by kernel_rfl
theorem cells62 : Try.prog.cellsOf 62 = 3 := by kernel_rfl

/-- The cells of a row of k cells each. -/
theorem rows_at {a : Addr} {len k : Nat} {Q : Nat → List Value → Prop} (hk : 0 < k) (hx : ∀ i, i < len → ∃ cs, w.cells? 0 (a.add (i * k)) k = some cs ∧ Q i cs) (i : Nat) (hi : i < len) :
    a.spot = none ∧ a.block < w.heap.size ∧ ∃ cs, cs.length = k ∧ (∀ j, j < k → w.cell? ⟨a.block, a.off + i * k + j, none⟩ = cs[j]?) ∧ Q i cs := by
  obtain ⟨b, off, sp⟩ := a
  obtain ⟨c0, h0, _⟩ := hx 0 (by omega)
  obtain ⟨_, l0, f0⟩ := World.cells?_some h0
  have e0 := f0 0 hk
  rw [List.getElem?_eq_getElem (by omega)] at e0
  have hs : sp = none := by simpa [Addr.add] using World.cell?_spot e0
  subst hs
  refine ⟨rfl, ?_, ?_⟩
  · have := World.block_lt_of_cell? w _ e0
    simpa [Addr.add] using this
  · obtain ⟨cs, h1, h2⟩ := hx i hi
    obtain ⟨_, l1, f1⟩ := World.cells?_some h1
    refine ⟨cs, l1, fun j hj => ?_, h2⟩
    rw [← f1 j hj, add_plain, add_plain]

theorem open_bytes {v : Value} (h : DataW.trod enc Try.prog w 0 spare held fuel 23 [v] = some x) : ∃ a n c o, v = .slice a n c ∧ IntsAt w w.heap.size a n o ∧ n ≤ 9223372036854775807 ∧ (a = none → c = 0) := by
  rcases open_ints Try.underlying23 Try.underlying3 (cells1 3 (by simp)) h with ⟨hcs, _⟩ | ⟨a, len, cap, zs, hcs, _, hl, hm, hz, _, hcell, hwz⟩
  · simp only [List.cons.injEq, and_true] at hcs
    exact ⟨none, 0, 0, none, hcs, .inl ⟨rfl, rfl, rfl⟩, by omega, fun _ => rfl⟩
  · simp only [List.cons.injEq, and_true] at hcs
    unfold maxLen at hm
    have hlz : len ≤ zs.length := by rw [hz]; split <;> omega
    have hwf : ∀ y ∈ zs.take len, -9223372036854775808 ≤ y ∧ y ≤ 9223372036854775807 := fun y hy => by
      have := hwz y (List.mem_of_mem_take hy)
      simp [Lit.wf, IntKind.min, IntKind.max, IntKind.signed, IntKind.bits] at this
      omega
    by_cases hp : 0 < zs.length
    · obtain ⟨b, off, rfl, hc⟩ := ints_at hcell hp
      refine ⟨some ⟨b, off, none⟩, len, cap, some (zs.take len), hcs, .inr ⟨b, off, none, zs.take len, rfl, rfl, by rw [List.length_take]; omega, fun i hi => ?_, ?_⟩, by omega, fun h => by cases h⟩
      · have h3 := hc i (by omega)
        refine ⟨rfl, World.block_lt_of_cell? w _ h3, h3.trans ?_⟩
        rw [List.getD_eq_getElem?_getD, List.getD_eq_getElem?_getD, List.getElem?_take_of_lt hi]
      · exact fun y hy => by have := hwf y hy; omega
    · obtain ⟨b, off, sp⟩ := a
      refine ⟨some ⟨b, off, sp⟩, len, cap, some (zs.take len), hcs, .inr ⟨b, off, sp, zs.take len, rfl, rfl, by rw [List.length_take]; omega, fun i hi => by omega, fun y hy => by have := hwf y hy; omega⟩, by omega, fun h => by cases h⟩

theorem list3 {α : Type} {l : List α} (h : l.length = 3) : ∃ a b c, l = [a, b, c] := by
  match l, h with
  | [a, b, c], _ => exact ⟨a, b, c, rfl⟩
theorem list4 {α : Type} {l : List α} (h : l.length = 4) : ∃ a b c d, l = [a, b, c, d] := by
  match l, h with
  | [a, b, c, d], _ => exact ⟨a, b, c, d, rfl⟩

theorem float_lt {n : Nat} (h : (Lit.float .f64 n).wf = true) : n < 18446744073709551616 := by
  simpa [Lit.wf] using h

/-- The three cells of a text with its numbers. -/
theorem open_text {v0 v1 v2 : Value} {n : Nat} {y0 y1 y2 : DataW H × List MemPlace} (t0 : DataW.trod enc Try.prog w 0 spare held n 9 [v0] = some y0) (t1 : DataW.trod enc Try.prog w 0 spare held n 22 [v1] = some y1) (t2 : DataW.trod enc Try.prog w 0 spare held n 23 [v2] = some y2) :
    ∃ c : CandD, ∃ a m k, v0 = .string c.tok ∧ v1 = .float .f64 c.bits ∧ v2 = .slice a m k ∧ InText w w.heap.size c.tok c.bits c.bytes a m k := by
  obtain ⟨s, hs, _, hsm⟩ := DataW.trod_string Try.underlying9 t0
  obtain ⟨b, hb, hbw⟩ := trod_float Try.underlying22 t1
  obtain ⟨a, m, k, o, hv, hI, hm, hnil⟩ := open_bytes t2
  simp only [List.cons.injEq, and_true] at hs hb
  exact ⟨⟨s, b, o⟩, a, m, k, hs, hb, hv, hI, by unfold maxLen at hsm; exact hsm, hm, float_lt hbw, hnil⟩

/-- A candidate's three cells. -/
theorem open_cand {cs : List Value} (h : DataW.trod enc Try.prog w 0 spare held fuel 62 cs = some x) : ∃ c : CandD, ∃ a m k, cs = [.string c.tok, .float .f64 c.bits, .slice a m k] ∧ InText w w.heap.size c.tok c.bits c.bytes a m k := by
  obtain ⟨y0, y1, y2, n, _, hl, t0, t1, t2⟩ := trod_struct3 Try.underlying62 h
  rw [cells62] at hl
  obtain ⟨v0, v1, v2, rfl⟩ := list3 hl
  rw [cells1 9 (by simp)] at t0
  rw [cells1 22 (by simp)] at t1
  rw [cells1 23 (by simp)] at t2
  obtain ⟨c, a, m, k, rfl, rfl, rfl, hI⟩ := open_text t0 t1 t2
  exact ⟨c, a, m, k, rfl, hI⟩

theorem open_cands {v : Value} (h : DataW.trod enc Try.prog w 0 spare held fuel 24 [v] = some x) : ∃ a n c o, v = .slice a n c ∧ InCands w w.heap.size a n o ∧ (a = none → c = 0) := by
  rcases open_slice Try.underlying24 h with ⟨hcs, _⟩ | ⟨a, len, cap, m, n, D, Pl, hcs, _, hl, hm, hmm, _, hx⟩
  · simp only [List.cons.injEq, and_true] at hcs
    exact ⟨none, 0, 0, none, hcs, .inl ⟨rfl, rfl, rfl⟩, fun _ => rfl⟩
  · simp only [List.cons.injEq, and_true] at hcs
    unfold maxLen at hm
    have hlm : len ≤ m := by rw [hmm]; split <;> omega
    rw [cells62] at hx
    have each : ∀ i, i < len → ∃ c : CandD, a.spot = none ∧ a.block < w.heap.size ∧ ∃ ba m k, w.cell? ⟨a.block, a.off + i * 3, none⟩ = some (.string c.tok) ∧ w.cell? ⟨a.block, a.off + i * 3 + 1, none⟩ = some (.float .f64 c.bits) ∧
        w.cell? ⟨a.block, a.off + i * 3 + 2, none⟩ = some (.slice ba m k) ∧ InText w w.heap.size c.tok c.bits c.bytes ba m k := by
      intro i hi
      obtain ⟨hs, hb, cs, hcl, hcc, ht⟩ := rows_at (by omega) hx i (by omega)
      obtain ⟨c, ba, mm, k, rfl, hI⟩ := open_cand ht
      exact ⟨c, hs, hb, ba, mm, k, hcc 0 (by omega), hcc 1 (by omega), hcc 2 (by omega), hI⟩
    haveI : Inhabited CandD := ⟨⟨ByteArray.empty, 0, none⟩⟩
    obtain ⟨V, hV⟩ := choose_lt each
    obtain ⟨b, off, sp⟩ := a
    refine ⟨_, len, cap, some ((List.range len).map V), hcs, .inr ⟨b, off, sp, _, rfl, rfl, by simp, by omega, fun i c hc => ?_⟩, fun h => by cases h⟩
    obtain ⟨hi, rfl⟩ := List.getElem?_eq_some_iff.1 hc
    have hi' : i < len := by simpa using hi
    obtain ⟨hs, hb, ba, mm, k, h1, h2, h3, h4⟩ := hV i hi'
    rw [List.getElem_map, List.getElem_range]
    exact ⟨ba, mm, k, hs, hb, h1, h2, h3, h4⟩

theorem trod_struct4 {P : Program} {t : TypeId} {f0 f1 f2 f3 : Field} {cs : List Value} (ht : P.underlying t = some (.struct #[f0, f1, f2, f3])) (h : DataW.trod enc P w 0 spare held fuel t cs = some x) :
    ∃ y0 y1 y2 y3 n, cs.length = P.cellsOf t ∧ DataW.trod enc P w 0 spare held n f0.type ((cs.drop f0.offset).take (P.cellsOf f0.type)) = some y0 ∧
      DataW.trod enc P w 0 spare held n f1.type ((cs.drop f1.offset).take (P.cellsOf f1.type)) = some y1 ∧ DataW.trod enc P w 0 spare held n f2.type ((cs.drop f2.offset).take (P.cellsOf f2.type)) = some y2 ∧
      DataW.trod enc P w 0 spare held n f3.type ((cs.drop f3.offset).take (P.cellsOf f3.type)) = some y3 := by
  obtain ⟨xs, n, _, rfl, hl, hlen, hf⟩ := DataW.trod_struct ht h
  match xs, hlen with
  | [y0, y1, y2, y3], _ => exact ⟨y0, y1, y2, y3, n, hl, by simpa using hf 0 f0 rfl, by simpa using hf 1 f1 rfl, by simpa using hf 2 f2 rfl, by simpa using hf 3 f3 rfl⟩

/-- A token's four cells. -/
theorem open_tok {cs : List Value} (h : DataW.trod enc Try.prog w 0 spare held fuel 26 cs = some x) : ∃ t : TokD, ∃ ba bn bc ca cn cc, cs = [.string t.tok, .float .f64 t.bits, .slice ba bn bc, .slice ca cn cc] ∧ InTok w w.heap.size t ba bn bc ca cn cc := by
  obtain ⟨y0, y1, y2, y3, n, hl, t0, t1, t2, t3⟩ := trod_struct4 Try.underlying26 h
  rw [cells26] at hl
  obtain ⟨v0, v1, v2, v3, rfl⟩ := list4 hl
  rw [cells1 9 (by simp)] at t0
  rw [cells1 22 (by simp)] at t1
  rw [cells1 23 (by simp)] at t2
  rw [cells1 24 (by simp)] at t3
  obtain ⟨c, a, m, k, rfl, rfl, rfl, hI⟩ := open_text t0 t1 t2
  obtain ⟨ca, cn, cc, o, rfl, hC, hnil⟩ := open_cands t3
  exact ⟨⟨c.tok, c.bits, c.bytes, o⟩, a, m, k, ca, cn, cc, rfl, hI, hC, hnil⟩

/-- The tokens. -/
theorem open_toks {v : Value} (h : DataW.trod enc Try.prog w 0 spare held fuel 36 [v] = some x) : ∃ a n c ts, v = .slice a n c ∧ InToks w w.heap.size a n ts := by
  rcases open_slice Try.underlying36 h with ⟨hcs, _⟩ | ⟨a, len, cap, m, n, D, Pl, hcs, _, hl, hm, hmm, _, hx⟩
  · simp only [List.cons.injEq, and_true] at hcs
    exact ⟨none, 0, 0, [], hcs, .inl ⟨rfl, rfl, rfl⟩⟩
  · simp only [List.cons.injEq, and_true] at hcs
    unfold maxLen at hm
    have hlm : len ≤ m := by rw [hmm]; split <;> omega
    rw [cells26] at hx
    have each : ∀ i, i < len → ∃ t : TokD, a.spot = none ∧ a.block < w.heap.size ∧ ∃ ba bn bc ca cn cc, TokCells w a.block (a.off + i * 4) t ba bn bc ca cn cc ∧ InTok w w.heap.size t ba bn bc ca cn cc := by
      intro i hi
      obtain ⟨hs, hb, cs, hcl, hcc, ht⟩ := rows_at (by omega) hx i (by omega)
      obtain ⟨t, ba, bn, bc, ca, cn, cc, rfl, hI⟩ := open_tok ht
      exact ⟨t, hs, hb, ba, bn, bc, ca, cn, cc, ⟨hcc 0 (by omega), hcc 1 (by omega), hcc 2 (by omega), hcc 3 (by omega)⟩, hI⟩
    haveI : Inhabited TokD := ⟨⟨ByteArray.empty, 0, none, none⟩⟩
    obtain ⟨V, hV⟩ := choose_lt each
    obtain ⟨b, off, sp⟩ := a
    refine ⟨_, len, cap, (List.range len).map V, hcs, .inr ⟨b, off, sp, rfl, by simp, by omega, fun i t ht => ?_⟩⟩
    obtain ⟨hi, rfl⟩ := List.getElem?_eq_some_iff.1 ht
    have hi' : i < len := by simpa using hi
    obtain ⟨hs, hb, ba, bn, bc, ca, cn, cc, h1, h2⟩ := hV i hi'
    rw [List.getElem_map, List.getElem_range]
    exact ⟨hs, hb, ba, bn, bc, ca, cn, cc, h1, h2⟩

end

end Go.Proofs.Qxb6618748a
