/-
  Seat b6618755aD: maps that the call makes: a set of strings (map[string]bool), a dictionary (map[string]string).
-/
import Derived.Test.Qxb6618755aDoorChecked
import Derived.WalkKit
import Derived.Maps.OwnSet
import Derived.Below
namespace Go.Proofs.Qxb6618755aDoor
open Go.RowKit Go.Maps
set_option linter.unusedVariables false

theorem hid {p : Prop} (h : p) : Hid p := h


instance lawStr : LawfulBEq ByteArray where
  eq_of_beq {a b} h := by
    have h1 : (a.beq b) = true := h
    unfold ByteArray.beq at h1
    cases a; cases b
    simpa using h1
  rfl {a} := by
    show a.beq a = true
    unfold ByteArray.beq
    simp

/-- The value at a key. -/
def find : List (ByteArray × ByteArray) → ByteArray → Option ByteArray
  | [], _ => none
  | (a, c) :: I, s => if s = a then some c else find I s

abbrev key (s : ByteArray) : Lit := .string s.data.toList

theorem key_inj {s t : ByteArray} (h : key s = key t) : s = t := by
  have h1 : s.data.toList = t.data.toList := by simpa [key] using h
  cases s; cases t
  simpa using h1
theorem key_ne {s t : ByteArray} (h : s ≠ t) : key s ≠ key t := fun e => h (key_inj e)
theorem key_lit (s : ByteArray) : WideAt.IsKeyLit (key s) := trivial

theorem lawS : Keyed Tryd.prog 9 := string_keyed Tryd.underlying9
theorem zero4 (w : World) : (zeroValue 4).run Tryd.prog w = .ok (.bool false) w := by kernel_rfl
theorem zero9 (w : World) : (zeroValue 9).run Tryd.prog w = .ok (.string ByteArray.empty) w := by kernel_rfl
theorem keyOf_s {s : ByteArray} (h : s.size ≤ maxLen) : keyOf Tryd.prog 9 (.string s) = some (key s) := Go.WideMaps.keyOf_string_mk Tryd.underlying9 h

section
variable {H : Type} {P : Program} {k : TypeId} {R : Value → Option (DataW H × List MemPlace)} {w : World} {b n : Nat} {D : DataW H}
theorem ownsMap_tight (h : w.ownsMap P k R b n D) : w.ownsMap P k R b (Maps.size D) D := by
  obtain ⟨es, clock, hb, F, hs, rfl⟩ := h
  refine ⟨es, clock, hb, F, ?_, rfl⟩
  simp [Maps.size, length_sorted]
theorem ownsMap_block {w' : World} (h : w.ownsMap P k R b n D) (hb : w'.heap[b]? = w.heap[b]?) : w'.ownsMap P k R b n D := by
  obtain ⟨es, clock, hb', F, hs, hD⟩ := h
  exact ⟨es, clock, hb.trans hb', F, hs, hD⟩
theorem elem_bool_inv {P : Program} {e : TypeId} (he : P.underlying e = some .bool) {v : Value} {z : DataW H × List MemPlace} (h : plainElem P e v = some z) : ∃ x, v = .bool x ∧ z = (.lit (.bool x), []) := by
  unfold plainElem at h
  rw [he] at h
  cases v <;> simp at h
  exact ⟨_, rfl, h.symm⟩
theorem elem_string_inv {P : Program} {e : TypeId} (he : P.underlying e = some .string) {v : Value} {z : DataW H × List MemPlace} (h : plainElem P e v = some z) : ∃ s, v = .string s ∧ z = (.lit (.string s.data.toList), []) ∧ s.size ≤ maxLen := by
  unfold plainElem at h
  rw [he] at h
  cases v <;> simp at h
  exact ⟨_, rfl, h.2.symm, h.1⟩
end

/-! ### a set of strings -/

/-- Block b is a map[string]bool whose keys are S, each true. -/
def SetAt (w : World) (b : Nat) (S : List ByteArray) : Prop :=
  S.Nodup ∧ ∃ D : DataW Unit, w.ownsMap Tryd.prog 9 (plainElem Tryd.prog 4) b S.length D ∧ Maps.size D = S.length ∧
    ∀ s, D.atKey (key s) (.lit (.bool false)) = .lit (.bool (decide (s ∈ S))) ∧ Maps.has D (key s) = decide (s ∈ S)

def add (S : List ByteArray) (s : ByteArray) : List ByteArray := if s ∈ S then S else S ++ [s]

theorem mem_add {S : List ByteArray} {s t : ByteArray} : t ∈ add S s ↔ t ∈ S ∨ t = s := by
  unfold add
  split
  · rename_i h
    exact ⟨.inl, fun h' => h'.elim id (fun e => e ▸ h)⟩
  · simp
theorem add_new {S : List ByteArray} {s : ByteArray} (h : s ∉ S) : add S s = S ++ [s] := if_neg h

theorem SetAt.lt {w : World} {b : Nat} {S : List ByteArray} (h : SetAt w b S) : b < w.heap.size := by
  obtain ⟨_, D, h, _⟩ := h
  exact h.lt

theorem SetAt.block {w w' : World} {b : Nat} {S : List ByteArray} (h : SetAt w b S) (hb : w'.heap[b]? = w.heap[b]?) : SetAt w' b S := by
  obtain ⟨hn, D, h1, h2⟩ := h
  exact ⟨hn, D, ownsMap_block h1 hb, h2⟩

theorem SetAt.made (w : World) : SetAt (w.alloc (.map #[] 0)) w.heap.size [] :=
  ⟨List.nodup_nil, .map [], World.ownsMap_made _ _ _ _, rfl, fun s => ⟨by simp [DataW.atKey], by simp [Maps.has]⟩⟩

theorem SetAt.look {w : World} {b : Nat} {S : List ByteArray} (h : SetAt w b S) {s : ByteArray} (hs : s.size ≤ maxLen) :
    (Instr.lookup 25 (.map (some b)) (.string s) false).run Tryd.prog w = .ok (.bool (decide (s ∈ S))) w := by
  obtain ⟨_, D, h1, _, h3⟩ := h
  obtain ⟨v, ps, hr, hv⟩ := h1.lookup lawS Tryd.underlying25 (zero4 w) (plainElem_bool Tryd.underlying4 false) (keyOf_s hs)
  rw [(h3 s).1] at hv
  obtain ⟨x, rfl, hx⟩ := elem_bool_inv Tryd.underlying4 hv
  simp at hx
  rw [hr, ← hx.1]

theorem look_nil25 (w : World) {s : ByteArray} (hs : s.size ≤ maxLen) : (Instr.lookup 25 (.map none) (.string s) false).run Tryd.prog w = .ok (.bool false) w := by
  have := Maps.look_nil (P := Tryd.prog) (w := w) false lawS Tryd.underlying25 (zero4 w) (keyOf_s hs)
  simpa using this

theorem SetAt.len {w : World} {b : Nat} {S : List ByteArray} (h : SetAt w b S) (ty : TypeId) : (Builtin.len_ #[25] ty #[.map (some b)]).run Tryd.prog w = .ok (.int .i64 S.length) w := by
  obtain ⟨_, D, h1, h2, h3⟩ := h
  rw [h1.len Tryd.underlying25 ty, h2]

theorem SetAt.put {w : World} {b : Nat} {S : List ByteArray} (h : SetAt w b S) {s : ByteArray} (hs : s.size ≤ maxLen) (hn : S.length < maxLen) :
    ∃ w', (Instr.mapUpdate 25 (.map (some b)) (.string s) (.bool true)).run Tryd.prog w = .ok () w' ∧ SetAt w' b (add S s) ∧ w.grownBy w' (some b) := by
  obtain ⟨hd, D, h1, h2, h3⟩ := h
  obtain ⟨w', hr, ho, hg⟩ := h1.update lawS Tryd.underlying25 hn (keyOf_s hs) (plainElem_bool Tryd.underlying4 true)
  have hsz : Maps.size (D.put (key s) (.lit (.bool true))) = (add S s).length := by
    rw [Maps.size_put (h1.tidy lawS), (h3 s).2, h2]
    unfold add
    by_cases hm : s ∈ S <;> simp [hm]
  refine ⟨w', hr, ⟨?_, _, hsz ▸ ownsMap_tight ho, hsz, fun t => ?_⟩, hg⟩
  · unfold add
    split
    · exact hd
    · rename_i hm
      rw [List.nodup_append]
      exact ⟨hd, by simp, fun x hx y hy => by rintro rfl; simp at hy; exact hm (hy ▸ hx)⟩
  · by_cases hts : t = s
    · subst hts
      rw [Maps.atKey_put_same h1.isMap (key_lit t), Maps.has_put_same h1.isMap (key_lit t)]
      have : t ∈ add S t := mem_add.2 (.inr rfl)
      simp [this]
    · rw [Maps.atKey_put_other (key_ne hts), Maps.has_put_other (key_ne hts), (h3 t).1, (h3 t).2]
      have : (t ∈ add S s) = (t ∈ S) := propext (mem_add.trans ⟨fun h => h.elim id (fun e => absurd e hts), .inl⟩)
      simp [this]

/-! ### a dictionary -/

/-- Block b is a map[string]string whose entries are I. -/
def DictAt (w : World) (b : Nat) (I : List (ByteArray × ByteArray)) : Prop :=
  ∃ D : DataW Unit, w.ownsMap Tryd.prog 9 (plainElem Tryd.prog 9) b I.length D ∧ Maps.size D = I.length ∧
    ∀ s, D.atKey (key s) (.lit (.string [])) = .lit (.string ((find I s).getD ByteArray.empty).data.toList) ∧ Maps.has D (key s) = (find I s).isSome

theorem DictAt.lt {w : World} {b : Nat} {I : List (ByteArray × ByteArray)} (h : DictAt w b I) : b < w.heap.size := by
  obtain ⟨D, h, _⟩ := h
  exact h.lt

theorem DictAt.block {w w' : World} {b : Nat} {I : List (ByteArray × ByteArray)} (h : DictAt w b I) (hb : w'.heap[b]? = w.heap[b]?) : DictAt w' b I := by
  obtain ⟨D, h1, h2⟩ := h
  exact ⟨D, ownsMap_block h1 hb, h2⟩

theorem DictAt.made (w : World) : DictAt (w.alloc (.map #[] 0)) w.heap.size [] :=
  ⟨.map [], World.ownsMap_made _ _ _ _, rfl, fun s => ⟨by simp [DataW.atKey, find], by simp [Maps.has, find]⟩⟩

theorem emptyElem : plainElem (H := Unit) Tryd.prog 9 (.string ByteArray.empty) = some (.lit (.string []), []) := plainElem_string Tryd.underlying9 (by decide)

theorem bytes_eq {s t : ByteArray} (h : s.data.toList = t.data.toList) : s = t := by
  cases s; cases t
  simpa using h

theorem DictAt.look {w : World} {b : Nat} {I : List (ByteArray × ByteArray)} (h : DictAt w b I) {s : ByteArray} (hs : s.size ≤ maxLen) :
    (Instr.lookup 32 (.map (some b)) (.string s) false).run Tryd.prog w = .ok (.string ((find I s).getD ByteArray.empty)) w := by
  obtain ⟨D, h1, _, h3⟩ := h
  obtain ⟨v, ps, hr, hv⟩ := h1.lookup lawS Tryd.underlying32 (zero9 w) emptyElem (keyOf_s hs)
  rw [(h3 s).1] at hv
  obtain ⟨x, rfl, hx, _⟩ := elem_string_inv Tryd.underlying9 hv
  have hx1 := congrArg Prod.fst hx
  simp only [DataW.lit.injEq, Lit.string.injEq] at hx1
  rw [hr, bytes_eq hx1]

theorem DictAt.look_ok {w : World} {b : Nat} {I : List (ByteArray × ByteArray)} (h : DictAt w b I) {s : ByteArray} (hs : s.size ≤ maxLen) :
    (Instr.lookup 32 (.map (some b)) (.string s) true).run Tryd.prog w = .ok (.tuple #[.string ((find I s).getD ByteArray.empty), .bool (find I s).isSome]) w := by
  obtain ⟨D, h1, _, h3⟩ := h
  obtain ⟨v, ps, hr, hv⟩ := h1.look_ok lawS Tryd.underlying32 (zero9 w) emptyElem (keyOf_s hs)
  rw [(h3 s).1] at hv
  obtain ⟨x, rfl, hx, _⟩ := elem_string_inv Tryd.underlying9 hv
  have hx1 := congrArg Prod.fst hx
  simp only [DataW.lit.injEq, Lit.string.injEq] at hx1
  rw [hr, (h3 s).2, bytes_eq hx1]

theorem DictAt.len {w : World} {b : Nat} {I : List (ByteArray × ByteArray)} (h : DictAt w b I) (ty : TypeId) : (Builtin.len_ #[32] ty #[.map (some b)]).run Tryd.prog w = .ok (.int .i64 I.length) w := by
  obtain ⟨D, h1, h2, h3⟩ := h
  rw [h1.len Tryd.underlying32 ty, h2]

theorem find_snoc (I : List (ByteArray × ByteArray)) (s v t : ByteArray) (hn : find I s = none) : find (I ++ [(s, v)]) t = if t = s then some v else find I t := by
  induction I with
  | nil => simp [find]
  | cons p I ih =>
    obtain ⟨a, c⟩ := p
    rw [List.cons_append, find, find]
    rw [find] at hn
    by_cases hsa : s = a
    · rw [if_pos hsa] at hn; cases hn
    · rw [if_neg hsa] at hn
      by_cases hta : t = a
      · subst hta
        rw [if_pos rfl, if_pos rfl, if_neg (fun e => hsa e.symm)]
      · rw [if_neg hta, if_neg hta]
        exact ih hn

theorem DictAt.put {w : World} {b : Nat} {I : List (ByteArray × ByteArray)} (h : DictAt w b I) {s v : ByteArray} (hs : s.size ≤ maxLen) (hv : v.size ≤ maxLen) (hn : I.length < maxLen) (hnew : find I s = none) :
    ∃ w', (Instr.mapUpdate 32 (.map (some b)) (.string s) (.string v)).run Tryd.prog w = .ok () w' ∧ DictAt w' b (I ++ [(s, v)]) ∧ w.grownBy w' (some b) := by
  obtain ⟨D, h1, h2, h3⟩ := h
  obtain ⟨w', hr, ho, hg⟩ := h1.update lawS Tryd.underlying32 hn (keyOf_s hs) (plainElem_string Tryd.underlying9 hv)
  have hsz : Maps.size (D.put (key s) (.lit (.string v.data.toList))) = (I ++ [(s, v)]).length := by
    rw [Maps.size_put (h1.tidy lawS), (h3 s).2, h2, hnew]
    simp
  refine ⟨w', hr, ⟨_, hsz ▸ ownsMap_tight ho, hsz, fun t => ?_⟩, hg⟩
  rw [find_snoc I s v t hnew]
  by_cases hts : t = s
  · subst hts
    rw [Maps.atKey_put_same h1.isMap (key_lit t), Maps.has_put_same h1.isMap (key_lit t)]
    simp
  · rw [Maps.atKey_put_other (key_ne hts), Maps.has_put_other (key_ne hts), (h3 t).1, (h3 t).2]
    simp [hts]

end Go.Proofs.Qxb6618755aDoor
