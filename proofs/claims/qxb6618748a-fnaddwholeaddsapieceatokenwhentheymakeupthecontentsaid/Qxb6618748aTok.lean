/-
  Seat b6618748a: appendToken.
-/
import Derived.Test.Qxb6618748aItself2
import Derived.Deep.RegionWith
import Derived.BigRegion
import Derived.Deep.DeepCutAuto
namespace Go.Proofs.Qxb6618748a
open Go.RowKit
set_option linter.unusedVariables false
theorem run_store_float {P : Program} {w : World} {a : Addr} {m : Mode} (k : FloatKind) (n : Nat) : (store a (.float k n) m).run P w = stored P w a (.float k n) m := run_store P w a _ m rfl
attribute [local go_sem] call47 run_store_float

structure CandD where
  tok : ByteArray
  bits : Nat
  bytes : Option (List Int)

structure TokD where
  tok : ByteArray
  bits : Nat
  bytes : Option (List Int)
  cands : Option (List CandD)

def encCand (t : TokD) (c : CandD) : List UInt8 :=
  if same t.tok t.bits t.bytes c.tok c.bits c.bytes then Lib.uvarint 3 else txt c.tok c.bytes ++ Lib.leBytes 8 c.bits
def encCands (t : TokD) (cs : List CandD) : List UInt8 := cs.flatMap (encCand t)
def encRest (t : TokD) : List UInt8 :=
  match t.cands with
  | none => Lib.uvarint 0
  | some cs => Lib.uvarint (cs.length + 1) ++ encCands t cs
/-- What appendToken appends. -/
def encTok (t : TokD) : List UInt8 := txt t.tok t.bytes ++ Lib.leBytes 8 t.bits ++ encRest t

/-- One text with its numbers, as three values: the text, the bits, a slice of ints. -/
def TextAt (w : World) (P : Nat) (tok : ByteArray) (bits : Nat) (bytes : Option (List Int)) (a : Option Addr) (n c : Nat) : Prop :=
  IntsAt w P a n bytes ∧ tok.size ≤ 1048576 ∧ n ≤ 1048576 ∧ bits < 18446744073709551616 ∧ (a = none → c = 0)

theorem TextAt.below {w w' : World} {P : Nat} {tok : ByteArray} {bits : Nat} {bytes : Option (List Int)} {a : Option Addr} {n c : Nat} (h : TextAt w P tok bits bytes a n c) (hb : Below P w w') : TextAt w' P tok bits bytes a n c :=
  ⟨h.1.below hb, h.2⟩

/-- A slice of candidates (three cells each) in memory below block P. -/
def CandsAt (w : World) (P : Nat) (ao : Option Addr) (n : Nat) (o : Option (List CandD)) : Prop :=
  (ao = none ∧ n = 0 ∧ o = none) ∨
  ∃ b off sp cs, ao = some ⟨b, off, sp⟩ ∧ o = some cs ∧ cs.length = n ∧ n ≤ 1048576 ∧
    ∀ i, i < n → ∃ c a m k, cs[i]? = some c ∧ sp = none ∧ b < P ∧ w.cell? ⟨b, off + i * 3, none⟩ = some (.string c.tok) ∧ w.cell? ⟨b, off + i * 3 + 1, none⟩ = some (.float .f64 c.bits) ∧
      w.cell? ⟨b, off + i * 3 + 2, none⟩ = some (.slice a m k) ∧ TextAt w P c.tok c.bits c.bytes a m k

theorem CandsAt.below {w w' : World} {P : Nat} {ao : Option Addr} {n : Nat} {o : Option (List CandD)} (h : CandsAt w P ao n o) (hb : Below P w w') : CandsAt w' P ao n o := by
  rcases h with h | ⟨b, off, sp, cs, h1, h2, h3, h3', h4⟩
  · exact .inl h
  · refine .inr ⟨b, off, sp, cs, h1, h2, h3, h3', fun i hi => ?_⟩
    obtain ⟨c, a, m, k, g1, g2, g3, g4, g5, g6, g7⟩ := h4 i hi
    exact ⟨c, a, m, k, g1, g2, g3, (hb.cell (p := ⟨b, off + i * 3, none⟩) g3).trans g4, (hb.cell (p := ⟨b, off + i * 3 + 1, none⟩) g3).trans g5, (hb.cell (p := ⟨b, off + i * 3 + 2, none⟩) g3).trans g6, g7.below hb⟩

/-- A token's four values. -/
def TokAt (w : World) (P : Nat) (t : TokD) (ba : Option Addr) (bn bc : Nat) (ca : Option Addr) (cn cc : Nat) : Prop :=
  TextAt w P t.tok t.bits t.bytes ba bn bc ∧ CandsAt w P ca cn t.cands ∧ (ca = none → cc = 0)

/-- A box that the call has laid (its type is no byte) stands behind what the byte appenders do. -/
theorem Fr.box {B : Nat} {b : Option Nat} {w w1 : World} {k : Nat} {cs : Array Value} {ty : TypeId} {fz : Nat × Nat} (h : Fr B b w w1) (hk : w.heap[k]? = some (.cells cs ty fz)) (hb : some k ≠ b) (hty : ty ≠ 5) : w1.heap[k]? = some (.cells cs ty fz) :=
  h.2 k _ hk hb (fun c f e => by cases e; exact hty rfl)
theorem box_new (w : World) (o : Obj) : (w.alloc o).heap[w.heap.size]? = some o := heap_alloc_new w o
theorem box_cell {w : World} {k : Nat} {cs : Array Value} {ty : TypeId} {fz : Nat × Nat} (h : w.heap[k]? = some (.cells cs ty fz)) (i : Nat) : w.cell? ⟨k, i, none⟩ = cs[i]? := by
  rw [cell_of_row w k i cs ty fz h]

theorem owns_below {w w' : World} {B : Nat} {v : Value} {n : Nat} {xs : List Value} (h : w.ownsRow B 5 1 v n xs) (hb : Below w.heap.size w w') : w'.ownsRow B 5 1 v n xs :=
  h.kept (row := none) ⟨hb.os, hb.tape, hb.output, hb.size, fun k hk _ => hb.block k hk⟩ (by cases hv : v.ownBlock <;> simp)

theorem encCands_take (t : TokD) (cs : List CandD) (k : Nat) : (encCands t (cs.take k)).length ≤ (encCands t cs).length := by
  have h : encCands t cs = encCands t (cs.take k) ++ encCands t (cs.drop k) := by
    rw [encCands, encCands, encCands, ← List.flatMap_append, List.take_append_drop]
  rw [h, List.length_append]
  omega
theorem encCands_snoc (t : TokD) (cs : List CandD) (k : Nat) (c : CandD) (h : cs[k]? = some c) : encCands t (cs.take (k + 1)) = encCands t (cs.take k) ++ encCand t c := by
  obtain ⟨hk, rfl⟩ := List.getElem?_eq_some_iff.1 h
  rw [List.take_succ_eq_append_getElem hk, encCands, List.flatMap_append]
  simp [encCands]

theorem le8 (v : Nat) : (Lib.leBytes 8 v).length = 8 := by simp [Lib.leBytes]

set_option maxHeartbeats 4000000 in
set_option maxRecDepth 100000 in
theorem tok_any (B n P : Nat) (t : TokD) (ba : Option Addr) (bn bc : Nat) (ca : Option Addr) (cn cc : Nat) (ao : Option Addr) (cap : Nat) (xs : List Value) (w : World)
    (hown : w.ownsRow B 5 1 (.slice ao n cap) n xs) (hBw : B ≤ w.heap.size) (hPB : P ≤ B) (hlim : n + (encTok t).length + 20000000 ≤ 140737488355328) (hT : TokAt w P t ba bn bc ca cn cc) :
    Calls Try.prog 37 #[.slice ao n cap, .agg #[.string t.tok, .float .f64 t.bits, .slice ba bn bc, .slice ca cn cc]] w fun e w' => ∃ ao' cap', e = .returned (.slice ao' (n + (encTok t).length) cap') ∧ w'.ownsRow B 5 1 (.slice ao' (n + (encTok t).length) cap') (n + (encTok t).length) (xs ++ Lib.byteCells (encTok t)) ∧ Fr B none w w' := by
  obtain ⟨⟨hI, hts, hbn, hbits, hnil⟩, hC, hcnil⟩ := hT
  have hne := Lib.run_eql_slice_nil (P := Try.prog)
  have hLe : (encTok t).length = (txt t.tok t.bytes).length + 8 + (encRest t).length := by simp only [encTok, List.length_append, le8]
  have hL1 : n + (txt t.tok t.bytes).length + 8 + (encRest t).length + 20000000 ≤ 140737488355328 := by omega
  have HLe := hid hLe
  have HI := hid hI
  have HC := hid hC
  have Hown := hid hown
  clear hI hC hown hLe hlim
  go_enter Try.func37, Try.ntmps37
  go_wp2_with fail
  refine (text_any B n t.tok ba bn bc P t.bytes ao cap xs _ (Hown.out.alloc _) (by simp; omega) hPB (by omega) (HI.out.below ((Below.refl _ _).alloc (by omega) _)) hbn hts hnil).mono ?_
  rintro e w1 ⟨ao1, cap1, rfl, hown1, hfr1⟩
  have hbx1 := hfr1.box (box_new w _) (by simp) (by decide)
  have hc11 := box_cell hbx1 1
  simp only [List.getElem?_toArray, List.getElem?_cons_succ, List.getElem?_cons_zero] at hc11
  have HB1 := hid hbx1
  have hs1 := hfr1.1.size
  simp only [World.size_alloc] at hs1
  have hfr1' : Fr B none w w1 := ((Fr.refl B none w).alloc (by omega) _).trans hfr1
  clear hbx1 hfr1
  go_wp2_with fail
  have hU := hid (uint64_any B _ t.bits hbits ao1 cap1 _ w1.drew hown1.drew (by simp; omega) (by omega))
  go_cut [0] (fun s0 wx => ∃ ao2 cap2, s0 = .slice ao2 (n + (txt t.tok t.bytes).length + 8) cap2 ∧ wx.ownsRow B 5 1 (.slice ao2 (n + (txt t.tok t.bytes).length + 8) cap2) (n + (txt t.tok t.bytes).length + 8) (xs ++ Lib.byteCells (txt t.tok t.bytes) ++ Lib.byteCells (Lib.leBytes 8 t.bits)) ∧ Fr B none w1 wx)
  case first =>
    go_region_with (go_at_call 46; refine hU.out.mono ?_; rintro e w2 ⟨ao2, cap2, rfl, hown2, hfr2⟩)
    all_goals (go_wp2_with fail; go_meet; exact ⟨ao2, cap2, rfl, hown2, ⟨⟨hfr2.1.os, hfr2.1.tape, hfr2.1.output, hfr2.1.size, hfr2.1.block⟩, hfr2.2⟩⟩)
  case rest =>
    obtain ⟨ao2, cap2, rfl, hown2, hfr2⟩ := hcut
    have hbx2 := hfr2.box HB1.out (by simp) (by decide)
    have hc23 := box_cell hbx2 3
    simp only [List.getElem?_toArray, List.getElem?_cons_succ, List.getElem?_cons_zero] at hc23
    have HB2 := hid hbx2
    have hfrA : Fr B none w wc := hfr1'.trans hfr2
    have hsA := hfrA.1.size
    have hsB := hfr2.1.size
    clear hbx2 hfr2 hfr1' hown1 hc11 hU
    have HCb := hid (HC.out.below (hfrA.1.mono hPB))
    rcases HC.out with ⟨hca, hcn, ho⟩ | ⟨b, off, sp, cs, hca, ho, hcl, hcn, hcs⟩
    · -- no candidates given
      have eR : encRest t = Lib.uvarint 0 := by simp [encRest, ho]
      have HR := hid eR
      clear eR ho
      subst hca hcn
      go_wp2_with fail
      refine (uvarint_any B _ 0 (by omega) ao2 cap2 _ wc hown2 (by omega) (by omega)).mono ?_
      rintro e w3 ⟨ao3, cap3, rfl, hown3, hfr3⟩
      go_wp2_with fail
      go_ret
      have el : n + (encTok t).length = n + (txt t.tok t.bytes).length + 8 + (Lib.uvarint 0).length := by rw [HLe.out, HR.out]; omega
      refine ⟨ao3, cap3, by rw [el]; rfl, ?_, hfrA.trans hfr3⟩
      rw [el, encTok, HR.out]
      simp only [Lib.byteCells_append, ← List.append_assoc]
      exact hown3
    · have eR : encRest t = Lib.uvarint (cs.length + 1) ++ encCands t cs := by simp [encRest, ho]
      have HR := hid eR
      have HRl := hid (show (encRest t).length = (Lib.uvarint (cn + 1)).length + (encCands t cs).length by rw [eR, List.length_append, hcl])
      have HCL := hid hcl
      have HCS := hid hcs
      have HO := hid ho
      clear eR ho hcl hcs
      subst hca
      go_wp2_with fail
      rw [show ((cn : Int) + 1) = ((cn + 1 : Nat) : Int) from by omega]
      have hul := Lib.uvarint_length64 (x := cn + 1) (by omega)
      refine (uvarint_any B _ (cn + 1) (by omega) ao2 cap2 _ wc hown2 (by omega) (by omega)).mono ?_
      rintro e w3 ⟨ao3, cap3, rfl, hown3, hfr3⟩
      have hbx3 := hfr3.box HB2.out (by simp) (by decide)
      have hc30 := box_cell hbx3 0
      have hc31 := box_cell hbx3 1
      have hc32 := box_cell hbx3 2
      have hc33 := box_cell hbx3 3
      simp only [List.getElem?_toArray, List.getElem?_cons_succ, List.getElem?_cons_zero] at hc30 hc31 hc32 hc33
      have HB3 := hid hbx3
      have hfrB : Fr B none w w3 := hfrA.trans hfr3
      have hsC := hfr3.1.size
      clear hbx3 hfr3 hown2 hfrA
      have hRb : (Lib.uvarint (cn + 1)).length + (encCands t cs).length = (encRest t).length := by rw [HRl.out]
      obtain ⟨N, hN⟩ : ∃ N, N = n + (txt t.tok t.bytes).length + 8 + (Lib.uvarint (cn + 1)).length := ⟨_, rfl⟩
      have hNb : N + (encCands t cs).length + 20000000 ≤ 140737488355328 := by omega
      have HN := hid hN
      rw [← hN] at hown3 ⊢
      clear hN hRb hL1
      obtain ⟨Y, hY⟩ : ∃ Y, Y = xs ++ Lib.byteCells (txt t.tok t.bytes) ++ Lib.byteCells (Lib.leBytes 8 t.bits) ++ Lib.byteCells (Lib.uvarint (cn + 1)) := ⟨_, rfl⟩
      have HY := hid hY
      rw [← hY] at hown3
      clear hY
      go_wp2_with fail

      go_loopw [0, 34] (fun vb vi wr => ∃ (k : Nat) (ao4 : Option Addr) (cap4 : Nat), k ≤ cn ∧ vi = .int .i64 k ∧ vb = .slice ao4 (N + (encCands t (cs.take k)).length) cap4 ∧ wr.ownsRow B 5 1 (.slice ao4 (N + (encCands t (cs.take k)).length) cap4) (N + (encCands t (cs.take k)).length) (Y ++ Lib.byteCells (encCands t (cs.take k))) ∧ Fr B none w3 wr)
        (fun _ vi _ => cn - (intOf vi).toNat)
      case atStart => exact ⟨0, ao3, cap3, Nat.zero_le _, rfl, by simp [encCands], by simpa [encCands, Lib.byteCells] using hown3, Fr.refl _ _ _⟩
      case round =>
        obtain ⟨k, ao4, cap4, hk, rfl, rfl, hown4, hfr4⟩ := hrel
        have hbx4 := hfr4.box HB3.out (by simp) (by decide)
        have hc40 := box_cell hbx4 0
        have hc41 := box_cell hbx4 1
        have hc42 := box_cell hbx4 2
        have hc43 := box_cell hbx4 3
        simp only [List.getElem?_toArray, List.getElem?_cons_succ, List.getElem?_cons_zero] at hc40 hc41 hc42 hc43
        have HB4 := hid hbx4
        have hs4 := hfr4.1.size
        clear hbx4 hc30 hc31 hc32 hc33 hown3
        have hvl := encCands_take t cs k
        by_cases hlt : k < cn
        · obtain ⟨c, a5, m5, k5, hce, hsp, hbP, g4, g5, g6, g7⟩ := HCS.out k hlt
          have hfw : Fr B none w wr := hfrB.trans hfr4
          have g4' := (hfw.1.cell (p := ⟨b, off + k * 3, none⟩) (show b < B by omega)).trans g4
          have g5' := (hfw.1.cell (p := ⟨b, off + k * 3 + 1, none⟩) (show b < B by omega)).trans g5
          have g6' := (hfw.1.cell (p := ⟨b, off + k * 3 + 2, none⟩) (show b < B by omega)).trans g6
          have G7 := hid (g7.below (hfw.1.mono hPB))
          have HV := hid (encCands_snoc t cs k c hce)
          have hvl1 := encCands_take t cs (k + 1)
          clear g4 g5 g6 g7 hce
          obtain rfl := hsp
          have hlt0 : w.heap.size < wr.heap.size := by omega
          go_wp2_with fail
          obtain ⟨W5, hW5⟩ : ∃ W5, W5 = wr.alloc (.cells #[.string c.tok, .float .f64 c.bits, .slice a5 m5 k5] 68) := ⟨_, rfl⟩
          have hfr5 : Fr B none wr W5 := by rw [hW5]; exact (Fr.refl B none wr).alloc (by omega) _
          have hbx5 : W5.heap[wr.heap.size]? = some (.cells #[.string c.tok, .float .f64 c.bits, .slice a5 m5 k5] 68) := by rw [hW5]; exact box_new wr _
          have hown5 := hown4.alloc (.cells #[.string c.tok, .float .f64 c.bits, .slice a5 m5 k5] 68)
          have hs5 : W5.heap.size = wr.heap.size + 1 := by rw [hW5]; simp
          rw [← hW5] at hown5 ⊢
          clear hW5
          have hs5' : wr.heap.size + 1 ≤ W5.heap.size := by omega
          have G7a := G7.out.below (hfr5.1.mono hPB)
          refine (itself_any t.tok c.tok t.bits c.bits ba a5 bn bc m5 k5 P t.bytes c.bytes _ W5 (HI.out.below ((hfw.trans hfr5).1.mono hPB)) G7a.1 (by omega) hbn G7a.2.2.1).mono ?_
          rintro e w6 ⟨rfl, hfr6⟩
          have hown6 := owns_below hown5 hfr6.1
          have hbx6 := hfr6.box hbx5 (by simp) (by decide)
          have hc60 := box_cell hbx6 0
          have hc61 := box_cell hbx6 1
          have hc62 := box_cell hbx6 2
          simp only [List.getElem?_toArray, List.getElem?_cons_succ, List.getElem?_cons_zero] at hc60 hc61 hc62
          have HB6 := hid hbx6
          have hs6 := hfr6.1.size
          have hfr6' : Fr B none wr w6 := hfr5.trans (hfr6.mono (by omega))
          have hfr6w : Fr B none w3 w6 := hfr4.trans hfr6'
          have G7b := hid (G7.out.below (hfr6'.1.mono hPB))
          clear hbx6 hbx5 hown5 hown4 hfr5 hfr6 G7a hs5 g4' g5' g6' hc40 hc41 hc42 hc43
          obtain ⟨sm, hsm⟩ : ∃ sm, sm = same t.tok t.bits t.bytes c.tok c.bits c.bytes := ⟨_, rfl⟩
          rw [← hsm]
          cases sm with
          | true =>
            have hE : encCand t c = Lib.uvarint 3 := by rw [encCand, ← hsm]; rfl
            have HE := hid hE
            clear hE hsm
            go_wp2_with fail
            refine (uvarint_any B _ 3 (by omega) ao4 cap4 _ w6 hown6 (by omega) (by omega)).mono ?_
            rintro e w7 ⟨ao7, cap7, rfl, hown7, hfr7⟩
            clear hown6
            go_wp2_with fail
            go_roundw
            case rel =>
              have el : (encCands t (cs.take (k + 1))).length = (encCands t (cs.take k)).length + (Lib.uvarint 3).length := by rw [HV.out, List.length_append, HE.out]
              refine ⟨k + 1, ao7, cap7, by omega, by go_num, by rw [el, ← Nat.add_assoc], ?_, hfr6w.trans hfr7⟩
              rw [el, ← Nat.add_assoc, HV.out, HE.out, Lib.byteCells_append, ← List.append_assoc]
              exact hown7
            case measure => simp [intOf]; omega
          | false =>
            have hE : encCand t c = txt c.tok c.bytes ++ Lib.leBytes 8 c.bits := by rw [encCand, ← hsm]; rfl
            have HE := hid hE
            have hEl : (encCand t c).length = (txt c.tok c.bytes).length + 8 := by rw [hE, List.length_append, le8]
            have HEl := hid hEl
            have hvl2 : (encCands t (cs.take k)).length + ((txt c.tok c.bytes).length + 8) ≤ (encCands t cs).length := by
              have := hvl1
              rw [HV.out, List.length_append, hEl] at this
              exact this
            clear hE hsm hEl
            go_wp2_with fail
            refine (text_any B _ c.tok a5 m5 k5 P c.bytes ao4 cap4 _ w6 hown6 (by omega) hPB (by have := G7b.out.2.1; have := G7b.out.2.2.1; omega) G7b.out.1 G7b.out.2.2.1 G7b.out.2.1 G7b.out.2.2.2.2).mono ?_
            rintro e w7 ⟨ao7, cap7, rfl, hown7, hfr7⟩
            have hbx7 := hfr7.box HB6.out (by simp) (by decide)
            have hc71 := box_cell hbx7 1
            simp only [List.getElem?_toArray, List.getElem?_cons_succ, List.getElem?_cons_zero] at hc71
            have hs7 := hfr7.1.size
            have hfr7' : Fr B none w3 w7 := hfr6w.trans hfr7
            clear hbx7 hown6 hc60 hc61 hc62 hfr6w hfr6' hfr7
            go_wp2_with fail
            have hU := hid (uint64_any B _ c.bits G7b.out.2.2.2.1 ao7 cap7 _ w7.drew hown7.drew (by simp; omega) (by omega))
            clear hown7
            go_region_with (go_at_call 46; refine hU.out.mono ?_; rintro e w8 ⟨ao8, cap8, rfl, hown8, hfr8⟩)
            all_goals
              have hfr8' : Fr B none w7 w8 := ⟨⟨hfr8.1.os, hfr8.1.tape, hfr8.1.output, hfr8.1.size, hfr8.1.block⟩, hfr8.2⟩
              go_wp2_with fail
              go_roundw
              case rel =>
                have el : (encCands t (cs.take (k + 1))).length = (encCands t (cs.take k)).length + ((txt c.tok c.bytes).length + 8) := by rw [HV.out, List.length_append, HEl.out]
                refine ⟨k + 1, ao8, cap8, by omega, by go_num, by rw [el, ← Nat.add_assoc, ← Nat.add_assoc], ?_, hfr7'.trans hfr8'⟩
                rw [el, ← Nat.add_assoc, ← Nat.add_assoc, HV.out, HE.out, Lib.byteCells_append, Lib.byteCells_append, ← List.append_assoc, ← List.append_assoc]
                exact hown8
              case measure => simp [intOf]; omega
        · go_wp2_with fail
          go_ret
          have hkk : cs.take k = cs := List.take_of_length_le (by rw [HCL.out]; omega)
          rw [hkk] at hown4 ⊢
          have el : n + (encTok t).length = N + (encCands t cs).length := by
            have h1 := HN.out
            have h2 := HRl.out
            have h3 := HLe.out
            omega
          have eY : xs ++ Lib.byteCells (encTok t) = Y ++ Lib.byteCells (encCands t cs) := by
            rw [HY.out, encTok, HR.out, HCL.out]
            simp only [Lib.byteCells_append, List.append_assoc]
          refine ⟨ao4, cap4, by rw [el]; rfl, ?_, hfrB.trans hfr4⟩
          rw [el, eY]
          exact hown4

end Go.Proofs.Qxb6618748a
