/-
  The row's frame of FnWriteHeaderFirstFinalStatusWins (seat b6618747aZF).
-/
import Derived.Test.Qxb6618747aGreatFmtCards
import Derived.Test.Qxb6618747aGreatFmtWrite
import Derived.ProofKit
import Derived.OpenShut
import Derived.ChangeSlices
import Derived.ChangeOld
import Derived.Below
import Derived.Stop.JoinedTold
namespace Go.Proofs.Qxb6618747aGreatFmt
open Go.ChangeShapes Go.WideShapes Go.ChangeAt Go.RowKit
open Go.Extern.Stop Go.Stop Go.Extern

theorem own : ownKnob Tryz.prog.godebug = none := by kernel_rfl
theorem laidOut : laidOutB Tryz.pinned.checked.prog = true := by kernel_rfl
theorem cells3 : Tryz.prog.cellsOf 3 = 1 := by kernel_rfl

/-- All ways of the law. -/
theorem law_any (s : Int) (a : Option Addr) (len cap : Nat) (zs : List Int) (w : World) (hx : (len : Int) ≤ 9223372036854775807) (hz : zs.length = len)
    (hc : ∀ i, i < len → ∃ b off, a = some ⟨b, off, none⟩ ∧ b < w.heap.size ∧ ∀ j, j < len → w.cell? ⟨b, off + j, none⟩ = some (.int .i64 (zs.getD j 0))) :
    Calls Tryz.prog 3 #[.int .i64 s, .slice a len cap] w fun e w' => e = .returned (.bool true) ∧ Below w.heap.size w w' := by
  by_cases hm : len ≤ 65536
  · by_cases hs : s = 0
    · subst hs
      by_cases h0 : len = 0
      · subst h0; exact law_empty0 a cap w
      · obtain ⟨b, off, rfl, hb, hcell⟩ := hc 0 (by omega)
        exact law_zero b off len cap zs w hm hz hb hcell
    · by_cases ho : s < 200 ∨ 999 < s
      · exact law_odd s a len cap w hm hs ho
      · by_cases h0 : len = 0
        · subst h0; exact law_emptyS s (by omega) (by omega) a cap w
        · obtain ⟨b, off, rfl, hb, hcell⟩ := hc 0 (by omega)
          exact law_set s (by omega) (by omega) b off len cap zs w hm hz hb hcell
  · exact law_long s a len cap w (by omega) hx

set_option maxRecDepth 100000 in
theorem t_lifted (os : Os) (started : os.Started) (H : Type) (enc : TypeId × Value → H) :
    ReturnsInTold none {} Tryz.checked os 3 .any Input.okWide ((OpenSpec.ofChange Rows.fnWriteHeaderFirstFinalStatusWinsSpec).preRow enc Tryz.prog Tryz.f3 [] false []) (fun F => ((OpenSpec.ofChange Rows.fnWriteHeaderFirstFinalStatusWinsSpec).at F).post enc Tryz.prog Tryz.f3 false true false false) (aloneAtReturn Tryz.prog) nothingAlways := by
  refine returnsInTold_of_row (C := Tryz.checked) (s := OpenSpec.ofChange Rows.fnWriteHeaderFirstFinalStatusWinsSpec) (by kernel_rfl) own started (by kernel_rfl) Tryz.func3
    (OpenSpec.witness_stopped (enc := enc) (C := Tryz.checked) false ⟨#[], #[.int .i64 0, .slice none 0 0], []⟩ 8 (by kernel_rfl) (by kernel_rfl) (by kernel_rfl) (by kernel_rfl)) ?_
  intro F W base args ds gs before _ hF hval0 hW _ _ hsz _ _
  have hval : ∀ (j : Nat) t v, Tryz.f3.params[j]? = some t → args[j]? = some v → Value.okWide Tryz.prog W .any base t v := hval0
  have hW' := hW
  obtain ⟨p, q, hA0, hV, rfl, _, _⟩ := hW
  have hA : DataW.TrodAll enc Tryz.prog W 0 (fun _ => true) true Tryz.f3.params.toList args.toList ds p := hA0
  rw [Tryz.params3] at hA hval
  obtain ⟨v0, v1, d0, d1, p0, p1, rfl, rfl, rfl, h0, h1⟩ := trodAll_two hA
  obtain ⟨rfl, rfl⟩ := trodVars_none hV
  obtain ⟨s, rfl, rfl, rfl, ws⟩ := open_int Tryz.underlying3 (hval 0 3 v0 rfl rfl) h0
  obtain ⟨a0, len, cap, rfl⟩ := okWide_slice Tryz.underlying22 (hval 1 22 v1 rfl rfl)
  have h1k := h1
  have lt1 : ∀ x ∈ p1, x.block < W.heap.size := by obtain ⟨m, hm⟩ := h1k; exact DataW.trod_lt m _ _ _ hm
  clear hA0 hval0
  have hwalk : Calls Tryz.prog 3 #[.int .i64 s, .slice a0 len cap] W fun e w' => e = .returned (.bool true) ∧ Below W.heap.size W w' := by
    obtain ⟨fuel, hf⟩ := h1
    rcases open_ints Tryz.underlying22 Tryz.underlying3 cells3 hf with ⟨hcs, hx⟩ | ⟨a, len', cap', zs, hcs, _, hl, hm, hz, hx, hcell, hwz⟩
    · simp [Value.cells] at hcs
      obtain ⟨rfl, rfl, rfl⟩ := hcs
      exact law_any s none 0 0 [] W (by decide) rfl (fun i hi => by omega)
    · simp [Value.cells] at hcs
      obtain ⟨rfl, rfl, rfl⟩ := hcs
      simp only [if_true] at hz
      unfold maxLen at hm
      refine law_any s (some a) len cap (zs.take len) W (by omega) (by rw [List.length_take]; omega) (fun i hi => ?_)
      obtain ⟨b, off, rfl, hc⟩ := ints_at hcell (by omega)
      have hlt : b < W.heap.size := by
        rcases Nat.lt_or_ge b W.heap.size with h | h
        · exact h
        · have := hc 0 (by omega)
          simp [World.cell?, Array.getElem?_eq_none h] at this
      refine ⟨b, off, rfl, hlt, fun j hj => ?_⟩
      rw [hc j (by omega)]
      simp [hj]
  refine hwalk.mono fun e W' ⟨he, bel⟩ => ?_
  subst he
  exact ⟨_, rfl, _, _, _, [], _, [], hW', trodAll_mk1 (shut_bool Tryz.underlying4 _), trodAll_mk2 (shut_int Tryz.underlying3 ws) (Below.trod laidOut (by kernel_rfl) (of_decide_eq_true (by kernel_rfl)) h1k bel lt1), rfl, bel.frame _, fun h => by cases h⟩

end Go.Proofs.Qxb6618747aGreatFmt
