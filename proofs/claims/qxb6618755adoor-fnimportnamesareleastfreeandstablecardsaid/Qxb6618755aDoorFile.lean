/-
  Seat b6618755aD: the file in memory; gfb1Set, New, ZZnewFile and its closure.
-/
import Derived.Test.Qxb6618755aDoorShelf
import Derived.Test.Qxb6618755aDoorGuard
import Derived.Lib.AppendIntMem
namespace Go.Proofs.Qxb6618755aDoor
open Go.RowKit
set_option linter.unusedVariables false

/-- Of the blocks of w none has turned but those of X. -/
structure Turn (X : List Nat) (w w' : World) : Prop where
  os : w'.os = w.os
  tape : w'.tape = w.tape
  output : w'.output = w.output
  size : w.heap.size ≤ w'.heap.size
  block : ∀ k, k < w.heap.size → k ∉ X → w'.heap[k]? = w.heap[k]?

theorem Turn.refl (X : List Nat) (w : World) : Turn X w w := ⟨rfl, rfl, rfl, Nat.le_refl _, fun _ _ _ => rfl⟩
theorem Turn.trans {X : List Nat} {w w1 w2 : World} (h : Turn X w w1) (k : Turn X w1 w2) : Turn X w w2 :=
  ⟨k.os.trans h.os, k.tape.trans h.tape, k.output.trans h.output, Nat.le_trans h.size k.size, fun i hi hX => (k.block i (Nat.lt_of_lt_of_le hi h.size) hX).trans (h.block i hi hX)⟩
theorem Turn.mono {X Y : List Nat} {w w' : World} (h : Turn X w w') (hX : ∀ x ∈ X, x ∈ Y) : Turn Y w w' :=
  ⟨h.os, h.tape, h.output, h.size, fun k hk hY => h.block k hk (fun hx => hY (hX k hx))⟩
theorem Turn.below {X : List Nat} {w w' : World} {B : Nat} (h : Turn X w w') (hB : B ≤ w.heap.size) (hX : ∀ x ∈ X, B ≤ x) : Below B w w' :=
  ⟨h.os, h.tape, h.output, h.size, fun k hk => h.block k (by omega) (fun hx => by have := hX k hx; omega)⟩
theorem Turn.of_grown {w w' : World} {b : Nat} (h : w.grownBy w' (some b)) : Turn [b] w w' :=
  ⟨h.os, h.tape, h.output, h.size, fun k hk hX => h.block k hk (by simpa using hX)⟩
theorem Turn.of_below {w w' : World} (h : Below w.heap.size w w') : Turn [] w w' :=
  ⟨h.os, h.tape, h.output, h.size, fun k hk _ => h.block k hk⟩
theorem Turn.toBelow {w w' : World} (h : Turn [] w w') : Below w.heap.size w w' := h.below (Nat.le_refl _) (by simp)
/-- A map that is new since a has been written. -/
theorem Turn.own {X : List Nat} {a w w' : World} {b : Nat} (h : Turn X a w) (hg : w.grownBy w' (some b)) (hb : a.heap.size ≤ b) : Turn X a w' :=
  ⟨hg.os.trans h.os, hg.tape.trans h.tape, hg.output.trans h.output, Nat.le_trans h.size hg.size, fun k hk hX => (hg.block k (Nat.lt_of_lt_of_le hk h.size) (by simp; omega)).trans (h.block k hk hX)⟩
theorem Turn.alloc {X : List Nat} {a w : World} (h : Turn X a w) (o : Obj) : Turn X a (w.alloc o) :=
  h.trans ⟨rfl, rfl, rfl, by simp, fun k hk _ => Below.heap_alloc _ _ _ hk⟩
theorem Turn.drew {X : List Nat} {a w : World} (h : Turn X a w) : Turn X a w.drew := ⟨h.os, h.tape, h.output, h.size, h.block⟩
theorem Turn.cell {X : List Nat} {w w' : World} (h : Turn X w w') {p : Addr} (hp : p.block < w.heap.size) (hX : p.block ∉ X) : w'.cell? p = w.cell? p := World.cell?_of_block (w := w) (h.block p.block hp hX)

/-- Where a file lies: itself, the captured variable, the declared set, the imports, the used names. -/
structure Lay where
  fb : Nat
  cb : Nat
  bd : Nat
  bi : Nat
  bu : Nat

def Lay.apart (L : Lay) : Prop := L.fb ≠ L.bi ∧ L.fb ≠ L.bu ∧ L.cb ≠ L.bi ∧ L.cb ≠ L.bu ∧ L.bd ≠ L.bi ∧ L.bd ≠ L.bu ∧ L.bi ≠ L.bu
def Lay.from (L : Lay) (B : Nat) : Prop := B ≤ L.fb ∧ B ≤ L.cb ∧ B ≤ L.bd ∧ B ≤ L.bi ∧ B ≤ L.bu
def Lay.before (L : Lay) (B : Nat) : Prop := L.fb < B ∧ L.cb < B ∧ L.bd < B ∧ L.bi < B ∧ L.bu < B

def declV (cb : Nat) : Value := .func (.func 24) #[] #[.pointer (some ⟨cb, 0, none⟩)]

def Tab (B : Nat) (w : World) : Prop := Lib.TabBelow Tryd.prog B w "internal/strconv.uint64pow10" .u64 Lib.pow10Tab

/-- The file with the declared set S and the imports I. -/
structure FileAt (B : Nat) (w : World) (L : Lay) (S : List ByteArray) (I : List (ByteArray × ByteArray)) : Prop where
  tab : Tab B w
  own : L.from B
  apart : L.apart
  c1 : w.cell? ⟨L.fb, 1, none⟩ = some (declV L.cb)
  c3 : w.cell? ⟨L.fb, 3, none⟩ = some (.map (some L.bi))
  c4 : w.cell? ⟨L.fb, 4, none⟩ = some (.map (some L.bu))
  cc : w.cell? ⟨L.cb, 0, none⟩ = some (.map (some L.bd))
  decl : SetAt w L.bd S
  imps : DictAt w L.bi I
  used : SetAt w L.bu (names I)

theorem FileAt.lt {B : Nat} {w : World} {L : Lay} {S : List ByteArray} {I : List (ByteArray × ByteArray)} (h : FileAt B w L S I) : L.before w.heap.size :=
  ⟨World.block_lt_of_cell? w _ h.c1, World.block_lt_of_cell? w _ h.cc, h.decl.lt, h.imps.lt, h.used.lt⟩

/-- The file stays as other blocks turn. -/
theorem FileAt.turn {B : Nat} {w w' : World} {L : Lay} {S : List ByteArray} {I : List (ByteArray × ByteArray)} {X : List Nat} (h : FileAt B w L S I) (ht : Turn X w w') (hB : B ≤ w.heap.size) (hX : ∀ x ∈ X, B ≤ x)
    (hne : L.fb ∉ X ∧ L.cb ∉ X ∧ L.bd ∉ X ∧ L.bi ∉ X ∧ L.bu ∉ X) : FileAt B w' L S I := by
  obtain ⟨l1, l2, l3, l4, l5⟩ := h.lt
  obtain ⟨n1, n2, n3, n4, n5⟩ := hne
  exact ⟨h.tab.on (ht.below hB hX), h.own, h.apart, (ht.cell (p := ⟨L.fb, 1, none⟩) l1 n1).trans h.c1, (ht.cell (p := ⟨L.fb, 3, none⟩) l1 n1).trans h.c3, (ht.cell (p := ⟨L.fb, 4, none⟩) l1 n1).trans h.c4,
    (ht.cell (p := ⟨L.cb, 0, none⟩) l2 n2).trans h.cc, h.decl.block (ht.block _ l3 n3), h.imps.block (ht.block _ l4 n4), h.used.block (ht.block _ l5 n5)⟩
theorem FileAt.on {B : Nat} {w w' : World} {L : Lay} {S : List ByteArray} {I : List (ByteArray × ByteArray)} (h : FileAt B w L S I) (ht : Turn [] w w') (hB : B ≤ w.heap.size) : FileAt B w' L S I :=
  h.turn ht hB (by simp) (by simp)

theorem make25 (n : Int) (w : World) : (Instr.makeMap 25 (some (.int .i64 n))).run Tryd.prog w = .ok (.map (some w.heap.size)) (w.alloc (.map #[] 0)) := by
  simp [Instr.makeMap, run_underlying Tryd.underlying25, asInt, asIntOf, Result.andThen]
theorem make32 (n : Int) (w : World) : (Instr.makeMap 32 (some (.int .i64 n))).run Tryd.prog w = .ok (.map (some w.heap.size)) (w.alloc (.map #[] 0)) := by
  simp [Instr.makeMap, run_underlying Tryd.underlying32, asInt, asIntOf, Result.andThen]

def toSet (D : List ByteArray) : List ByteArray := D.foldl add []
theorem toSet_snoc (D : List ByteArray) (k : Nat) (h : k < D.length) : toSet (D.take (k + 1)) = add (toSet (D.take k)) (D.getD k ByteArray.empty) := by
  rw [List.take_succ_eq_append_getElem h, toSet, List.foldl_append, List.getD_eq_getElem?_getD, List.getElem?_eq_getElem h]
  rfl
theorem add_len (S : List ByteArray) (s : ByteArray) : (add S s).length ≤ S.length + 1 := by
  unfold add; split <;> simp
theorem fold_len (D S : List ByteArray) : (D.foldl add S).length ≤ S.length + D.length := by
  induction D generalizing S with
  | nil => simp
  | cons x D ih =>
    have h1 := ih (add S x)
    have h2 := add_len S x
    simp
    omega
theorem toSet_len (D : List ByteArray) : (toSet D).length ≤ D.length := by
  have := fold_len D []
  simpa [toSet] using this

set_option maxHeartbeats 4000000 in
set_option maxRecDepth 100000 in
theorem set_any (a : Option Addr) (n c P : Nat) (xs : List ByteArray) (w : World) (h : StrsAt w P a n xs) (m : AllSmall xs) (hn : n ≤ 1048576) (hP : P ≤ w.heap.size) :
    Calls Tryd.prog 10 #[.slice a n c] w fun e w' => ∃ b, e = .returned (.map (some b)) ∧ SetAt w' b (toSet xs) ∧ Turn [] w w' ∧ w.heap.size ≤ b := by
  obtain ⟨hl, _, _, hc⟩ := h
  have HL := hid hl
  have HM := hid m
  have HC := hid hc
  clear hl m hc
  have hmm := make25
  go_enter Tryd.func10, Tryd.ntmps10
  go_wp2
  go_loopw [4] (fun vi wr => ∃ k : Nat, k ≤ n ∧ vi = .int .i64 k ∧ SetAt wr w.heap.size (toSet (xs.take k)) ∧ Turn [] w wr) (fun vi _ => n - (intOf vi).toNat)
  case atStart => exact ⟨0, Nat.zero_le _, rfl, SetAt.made w, (Turn.refl _ _).alloc _⟩
  case round =>
    obtain ⟨k, hk, rfl, hS, hT⟩ := hrel
    by_cases hlt : k < n
    · obtain ⟨b, off, rfl, hb, hcell⟩ := HC.out k hlt
      have hxs := HM.out _ (getD_mem (xs := xs) (i := k) (by rw [HL.out]; exact hlt))
      have hst := toSet_snoc xs k (by rw [HL.out]; exact hlt)
      obtain ⟨x, hx⟩ : ∃ x, x = xs.getD k ByteArray.empty := ⟨_, rfl⟩
      rw [← hx] at hcell hxs hst
      have hcell' := (hT.cell (p := ⟨b, off + k, none⟩) (by show b < _; omega) (by simp)).trans hcell
      have hlen : (toSet (xs.take k)).length < maxLen := by
        have := toSet_len (xs.take k)
        rw [List.length_take] at this
        unfold maxLen; omega
      obtain ⟨w1, hrun, hS1, hg⟩ := hS.put (s := x) (by unfold maxLen; omega) hlen
      have HST := hid hst
      have HS := hid hS
      have HS1 := hid hS1
      clear hst hx hcell hS hS1
      go_wp2
      go_round
      case rel => exact ⟨k + 1, by omega, by go_num, by rw [HST.out]; exact HS1.out, hT.own hg (Nat.le_refl _)⟩
      case measure => simp [intOf]; omega
    · go_wp2
      go_ret
      exact ⟨_, rfl, by rw [List.take_of_length_le (by rw [HL.out]; omega)] at hS; exact hS, hT, Nat.le_refl _⟩

/-- The closure of ZZnewFile. -/
theorem decl_any (w : World) (cb bd : Nat) (S : List ByteArray) (s : ByteArray) (hc : w.cell? ⟨cb, 0, none⟩ = some (.map (some bd))) (hS : SetAt w bd S) (hs : s.size ≤ 9223372036854775807) :
    Calls Tryd.prog 24 #[.string s, .pointer (some ⟨cb, 0, none⟩)] w fun e w' => e = .returned (.bool (decide (s ∈ S))) ∧ w = w' := by
  have hl := hS.look (s := s) (by unfold maxLen; exact hs)
  clear hS
  go_enter Tryd.func24, Tryd.ntmps24
  go_wp2
  go_ret
  exact ⟨rfl, rfl⟩

theorem new_world (w : World) (B bd : Nat) (S : List ByteArray) (cs : Array Value) (htab : Tab B w) (hB : B ≤ w.heap.size) (hbd : B ≤ bd) (hS : SetAt w bd S)
    (q1 : cs[1]? = some (declV w.heap.size)) (q3 : cs[3]? = some (.map (some (w.heap.size + 1)))) (q4 : cs[4]? = some (.map (some (w.heap.size + 1 + 1)))) :
    FileAt B ((((w.alloc (.cells #[.map (some bd)] 25)).alloc (.map #[] 0)).alloc (.map #[] 0)).alloc (.cells cs 47)) ⟨w.heap.size + 1 + 1 + 1, w.heap.size, bd, w.heap.size + 1, w.heap.size + 1 + 1⟩ S [] ∧
      Turn [] w ((((w.alloc (.cells #[.map (some bd)] 25)).alloc (.map #[] 0)).alloc (.map #[] 0)).alloc (.cells cs 47)) := by
  obtain ⟨w1, e1⟩ : ∃ w1, w1 = w.alloc (.cells #[.map (some bd)] 25) := ⟨_, rfl⟩
  obtain ⟨w2, e2⟩ : ∃ w2, w2 = w1.alloc (.map #[] 0) := ⟨_, rfl⟩
  obtain ⟨w3, e3⟩ : ∃ w3, w3 = w2.alloc (.map #[] 0) := ⟨_, rfl⟩
  obtain ⟨w4, e4⟩ : ∃ w4, w4 = w3.alloc (.cells cs 47) := ⟨_, rfl⟩
  rw [← e1, ← e2, ← e3, ← e4]
  have s1 : w1.heap.size = w.heap.size + 1 := by rw [e1]; simp
  have s2 : w2.heap.size = w.heap.size + 1 + 1 := by rw [e2, World.size_alloc, s1]
  have s3 : w3.heap.size = w.heap.size + 1 + 1 + 1 := by rw [e3, World.size_alloc, s2]
  have t1 : Turn [] w w1 := by rw [e1]; exact (Turn.refl _ _).alloc _
  have t2 : Turn [] w1 w2 := by rw [e2]; exact (Turn.refl _ _).alloc _
  have t3 : Turn [] w2 w3 := by rw [e3]; exact (Turn.refl _ _).alloc _
  have t4 : Turn [] w3 w4 := by rw [e4]; exact (Turn.refl _ _).alloc _
  have tt : Turn [] w w4 := t1.trans (t2.trans (t3.trans t4))
  have cf : ∀ i, w4.cell? ⟨w.heap.size + 1 + 1 + 1, i, none⟩ = cs[i]? := fun i => by rw [e4]; exact World.cell?_alloc_at (w := w3) _ _ _ _ s3.symm
  have cc1 : w1.cell? ⟨w.heap.size, 0, none⟩ = some (.map (some bd)) := by rw [e1]; exact World.cell?_alloc_at (w := w) _ _ _ _ rfl
  have cc4 : w4.cell? ⟨w.heap.size, 0, none⟩ = some (.map (some bd)) := ((t2.trans (t3.trans t4)).cell (p := ⟨w.heap.size, 0, none⟩) (by show w.heap.size < _; omega) (by simp)).trans cc1
  have hlt := hS.lt
  have d2 : DictAt w2 (w.heap.size + 1) [] := by rw [e2, ← s1]; exact DictAt.made w1
  have d3 : SetAt w3 (w.heap.size + 1 + 1) [] := by rw [e3, ← s2]; exact SetAt.made w2
  refine ⟨⟨htab.on (tt.below hB (by simp)), ⟨?_, ?_, ?_, ?_, ?_⟩, ⟨?_, ?_, ?_, ?_, ?_, ?_, ?_⟩, (cf 1).trans q1, (cf 3).trans q3, (cf 4).trans q4, cc4, hS.block (tt.block _ hlt (by simp)), d2.block ((t3.trans t4).block _ (by omega) (by simp)), d3.block (t4.block _ (by omega) (by simp))⟩, tt⟩
  all_goals (dsimp only; omega)

set_option maxHeartbeats 2000000 in
set_option maxRecDepth 100000 in
theorem newFile_any (w : World) (B bd : Nat) (S : List ByteArray) (htab : Tab B w) (hB : B ≤ w.heap.size) (hbd : B ≤ bd) (hS : SetAt w bd S) :
    Calls Tryd.prog 11 #[.map (some bd), .string ⟨#[]⟩] w fun e w' => ∃ L : Lay, e = .returned (.pointer (some ⟨L.fb, 0, none⟩)) ∧ L.bd = bd ∧ FileAt B w' L S [] ∧ Turn [] w w' ∧ w.heap.size ≤ L.bi ∧ w.heap.size ≤ L.bu := by
  have hmm := @run_makeMap Tryd.prog
  have HT := hid htab
  have HS := hid hS
  clear htab hS
  have hmf : ∀ (fn : Fn) (first cap : Array Value) (w : World), (Instr.makeFunc fn first cap).run Tryd.prog w = .ok (.func fn first cap) w := fun _ _ _ _ => rfl
  go_enter Tryd.func11, Tryd.ntmps11
  go_wp2
  go_ret
  obtain ⟨h1, h2⟩ := new_world w B bd S #[Value.pointer none, Value.func (Fn.func 24) #[] #[Value.pointer (some { block := w.heap.size, off := 0 })], Value.string { data := #[] }, Value.map (some (w.heap.size + 1)), Value.map (some (w.heap.size + 1 + 1)), Value.slice none 0 0, Value.int IntKind.i64 0, Value.int IntKind.i8 0] HT.out hB hbd HS.out rfl rfl rfl
  exact ⟨⟨w.heap.size + 1 + 1 + 1, w.heap.size, bd, w.heap.size + 1, w.heap.size + 1 + 1⟩, rfl, rfl, h1, h2, (show w.heap.size ≤ w.heap.size + 1 by omega), (show w.heap.size ≤ w.heap.size + 1 + 1 by omega)⟩

end Go.Proofs.Qxb6618755aDoor
