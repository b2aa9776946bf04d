/-
  Seat b6618748a: how long the packed pieces are at the most.
-/
import Derived.Test.Qxb6618748aEqual
namespace Go.Proofs.Qxb6618748a
open Go.RowKit
set_option linter.unusedVariables false

/-- The numbers are ints. -/
def Okb (o : Option (List Int)) : Prop := ∀ ys, o = some ys → ∀ x ∈ ys, -9223372036854775808 ≤ x ∧ x ≤ 9223372036854775807

theorem txt_le (t : ByteArray) (o : Option (List Int)) (h : Okb o) (hw : t.size + olen o ≤ 1048576) : (txt t o).length ≤ 20 + 10 * (t.size + olen o) := by
  have h1 := txt_length t o (olen o) (by omega) (by omega) (fun ys hy => ⟨by rw [hy]; rfl, h ys hy⟩)
  omega

theorem encCand_le (t : TokD) (c : CandD) (h : Okb c.bytes) (hw : wCand c ≤ 1048576) : (encCand t c).length ≤ 28 + 10 * wCand c := by
  unfold wCand at hw ⊢
  have h1 := txt_le c.tok c.bytes h hw
  unfold encCand
  split
  · have := Lib.uvarint_length64 (x := 3) (by omega)
    omega
  · rw [List.length_append, le8]
    omega

theorem encCands_le (t : TokD) : ∀ (cs : List CandD), (∀ c ∈ cs, Okb c.bytes) → wCands cs ≤ 1048576 → (encCands t cs).length ≤ 28 * cs.length + 10 * wCands cs
  | [], _, _ => by simp [encCands]
  | c :: cs, h, hw => by
    have e : wCands (c :: cs) = wCand c + wCands cs := by simp [wCands]
    have h1 := encCand_le t c (h c (List.mem_cons_self ..)) (by omega)
    have h2 := encCands_le t cs (fun x hx => h x (List.mem_cons_of_mem _ hx)) (by omega)
    have e2 : encCands t (c :: cs) = encCand t c ++ encCands t cs := rfl
    rw [e2, List.length_append, List.length_cons]
    omega

def OkTok (t : TokD) : Prop := Okb t.bytes ∧ ∀ c ∈ oCands t.cands, Okb c.bytes

theorem encTok_le (t : TokD) (h : OkTok t) (hw : wTok t ≤ 1048576) : (encTok t).length ≤ 38 + 28 * wTok t := by
  unfold wTok at hw ⊢
  have h1 := txt_le t.tok t.bytes h.1 (by omega)
  have h2 := encCands_le t (oCands t.cands) h.2 (by omega)
  have h3 : (encRest t).length ≤ 10 + (encCands t (oCands t.cands)).length := by
    unfold encRest
    cases hc : t.cands with
    | none =>
      have := Lib.uvarint_length64 (x := 0) (by omega)
      dsimp only
      omega
    | some cs =>
      rw [hc] at hw
      have hl : cs.length ≤ 1048576 := by simp only [oCands, Option.getD_some] at hw; omega
      have := Lib.uvarint_length64 (x := cs.length + 1) (by omega)
      dsimp only
      rw [List.length_append]
      simp only [oCands, Option.getD_some]
      omega
  simp only [encTok, List.length_append, le8]
  omega

theorem encAll_bound : ∀ (ts : List TokD), (∀ t ∈ ts, OkTok t) → wToks ts ≤ 1048576 → (encAll ts).length ≤ 48 * ts.length + 28 * wToks ts
  | [], _, _ => by simp [encAll]
  | t :: ts, h, hw => by
    have e : wToks (t :: ts) = wTok t + wToks ts := by simp [wToks]
    have h1 := encTok_le t (h t (List.mem_cons_self ..)) (by omega)
    have h2 := encAll_bound ts (fun x hx => h x (List.mem_cons_of_mem _ hx)) (by omega)
    have h3 := Lib.uvarint_length64 (x := 4) (by omega)
    have e2 : encAll (t :: ts) = encPiece t ++ encAll ts := rfl
    rw [e2, List.length_append, List.length_cons, encPiece, List.length_append]
    omega

theorem InToks.ok {w : World} {B : Nat} {ao : Option Addr} {n : Nat} {ts : List TokD} (h : InToks w B ao n ts) : ts.length = n ∧ ∀ t ∈ ts, OkTok t := by
  rcases h with ⟨_, rfl, rfl⟩ | ⟨b, off, sp, _, hl, _, ht⟩
  · exact ⟨rfl, fun t h => by cases h⟩
  · refine ⟨hl, fun t hm => ?_⟩
    obtain ⟨i, hi⟩ := List.mem_iff_getElem?.1 hm
    obtain ⟨_, _, ba, bn, bc, ca, cn, cc, _, hI, hC, _⟩ := ht i t hi
    refine ⟨fun ys hy => (hI.1.facts ys hy).2, fun c hc => ?_⟩
    rcases hC with ⟨_, _, ho⟩ | ⟨_, _, _, cs, _, ho, _, _, hcs⟩
    · rw [ho] at hc; cases hc
    · rw [ho] at hc
      obtain ⟨j, hj⟩ := List.mem_iff_getElem?.1 hc
      obtain ⟨a, m, k, _, _, _, _, _, hT⟩ := hcs j c hj
      exact fun ys hy => (hT.1.facts ys hy).2

end Go.Proofs.Qxb6618748a
