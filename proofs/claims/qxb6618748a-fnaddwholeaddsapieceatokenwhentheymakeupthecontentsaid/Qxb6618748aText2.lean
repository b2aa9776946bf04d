/-
  Seat b6618748a: appendText.
-/
import Derived.Test.Qxb6618748aText
namespace Go.Proofs.Qxb6618748a
open Go.RowKit
set_option linter.unusedVariables false

/-- The head of a packed text. -/
def head (t : ByteArray) (o : Option (List Int)) : Nat := (t.size * 4) ||| (mark t o).toNat
def vs (ys : List Int) : List UInt8 := ys.flatMap fun y => Lib.uvarint (Lib.zigzag y)
def lst (t : ByteArray) (o : Option (List Int)) : List UInt8 :=
  match o with
  | none => []
  | some ys => if ys = tl t then [] else Lib.uvarint ys.length ++ vs ys
/-- What appendText appends. -/
def txt (t : ByteArray) (o : Option (List Int)) : List UInt8 := Lib.uvarint (head t o) ++ t.data.toList ++ lst t o

theorem mark_range (t : ByteArray) (o : Option (List Int)) : mark t o = 0 ∨ mark t o = 1 ∨ mark t o = 2 := by
  unfold mark
  cases o with
  | none => exact .inl rfl
  | some ys =>
    dsimp only
    by_cases h : ys = tl t
    · rw [if_pos h]; exact .inr (.inl rfl)
    · rw [if_neg h]; exact .inr (.inr rfl)

theorem head_eq (t : ByteArray) (o : Option (List Int)) (ht : t.size ≤ 1048576) : bits .or .u64 ((t.size : Int) * 4) (mark t o) = ((head t o : Nat) : Int) := by
  have hm := mark_range t o
  have e1 : ((t.size : Int) * 4) = ((t.size * 4 : Nat) : Int) := by omega
  have e2 : mark t o = (((mark t o).toNat : Nat) : Int) := by omega
  rw [e1, e2, u64_or_nat _ _ (by omega) (by omega)]
  rfl

theorem head_lt (t : ByteArray) (o : Option (List Int)) (ht : t.size ≤ 1048576) : head t o < 18446744073709551616 := by
  have hm := mark_range t o
  unfold head
  exact Nat.or_lt_two_pow (n := 64) (by omega) (by omega)

theorem vs_snoc (ys : List Int) (k : Nat) (h : k < ys.length) : vs (ys.take (k + 1)) = vs (ys.take k) ++ Lib.uvarint (Lib.zigzag (ys.getD k 0)) := by
  rw [List.take_succ_eq_append_getElem h, vs, List.flatMap_append]
  simp [vs, List.getD_eq_getElem?_getD, List.getElem?_eq_getElem h]

theorem vs_length : ∀ (ys : List Int), (∀ x ∈ ys, -9223372036854775808 ≤ x ∧ x ≤ 9223372036854775807) → (vs ys).length ≤ 10 * ys.length
  | [], _ => by simp [vs]
  | y :: ys, h => by
    have ih := vs_length ys (fun x hx => h x (List.mem_cons_of_mem _ hx))
    have h1 := h y (List.mem_cons_self ..)
    have h2 := Lib.uvarint_length64 (Lib.zigzag_lt h1.1 h1.2)
    simp only [vs, List.flatMap_cons, List.length_append, List.length_cons] at ih ⊢
    omega

theorem toList_length (t : ByteArray) : t.data.toList.length = t.size := by simp

theorem lst_length (t : ByteArray) (o : Option (List Int)) (n : Nat) (hn : n ≤ 1048576) (h : ∀ ys, o = some ys → ys.length = n ∧ ∀ x ∈ ys, -9223372036854775808 ≤ x ∧ x ≤ 9223372036854775807) : (lst t o).length ≤ 10 + 10 * n := by
  unfold lst
  cases o with
  | none => simp
  | some ys =>
    dsimp only
    obtain ⟨h1, h2⟩ := h ys rfl
    have h3 := vs_length ys h2
    have h4 := Lib.uvarint_length64 (x := ys.length) (by omega)
    split
    · simp
    · simp only [List.length_append]; omega

theorem txt_length (t : ByteArray) (o : Option (List Int)) (n : Nat) (ht : t.size ≤ 1048576) (hn : n ≤ 1048576) (h : ∀ ys, o = some ys → ys.length = n ∧ ∀ x ∈ ys, -9223372036854775808 ≤ x ∧ x ≤ 9223372036854775807) : (txt t o).length ≤ 20 + t.size + 10 * n := by
  have h1 := lst_length t o n hn h
  have h2 := Lib.uvarint_length64 (head_lt t o ht)
  have h3 := toList_length t
  simp only [txt, List.length_append]
  omega

theorem IntsAt.facts {w : World} {P : Nat} {ao : Option Addr} {n : Nat} {o : Option (List Int)} (h : IntsAt w P ao n o) : ∀ ys, o = some ys → ys.length = n ∧ ∀ x ∈ ys, -9223372036854775808 ≤ x ∧ x ≤ 9223372036854775807 := by
  intro ys hy
  rcases h with ⟨_, _, rfl⟩ | ⟨b, off, sp, xs, _, rfl, h3, _, h5⟩
  · cases hy
  · obtain rfl := Option.some.inj hy
    exact ⟨h3, h5⟩

theorem lst_nil (t : ByteArray) (o : Option (List Int)) (h : mark t o ≠ 2) : lst t o = [] := by
  cases o with
  | none => rfl
  | some ys =>
    by_cases he : ys = tl t
    · simp [lst, he]
    · simp [mark, he] at h

theorem lst_some (t : ByteArray) (o : Option (List Int)) (h : mark t o = 2) : ∃ ys, o = some ys ∧ lst t o = Lib.uvarint ys.length ++ vs ys := by
  cases o with
  | none => simp [mark] at h
  | some ys =>
    by_cases he : ys = tl t
    · simp [mark, he] at h
    · exact ⟨ys, rfl, by simp [lst, he]⟩

theorem info9u : Try.prog.underlying 9 = some .string := by kernel_rfl

set_option maxHeartbeats 2000000 in
set_option maxRecDepth 100000 in
theorem text_any (B n : Nat) (t : ByteArray) (bo : Option Addr) (bn bc P : Nat) (o : Option (List Int)) (ao : Option Addr) (cap : Nat) (xs : List Value) (w : World)
    (hown : w.ownsRow B 5 1 (.slice ao n cap) n xs) (hBw : B ≤ w.heap.size) (hPB : P ≤ B) (hlim : n + (20 + t.size + 10 * bn) ≤ 140737488355328)
    (hI : IntsAt w P bo bn o) (hn : bn ≤ 1048576) (ht : t.size ≤ 1048576) (hnil : bo = none → bc = 0) :
    Calls Try.prog 45 #[.slice ao n cap, .string t, .slice bo bn bc] w fun e w' => ∃ ao' cap', e = .returned (.slice ao' (n + (txt t o).length) cap') ∧ w'.ownsRow B 5 1 (.slice ao' (n + (txt t o).length) cap') (n + (txt t o).length) (xs ++ Lib.byteCells (txt t o)) ∧ Fr B none w w' := by
  obtain ⟨i0, hi, hz0, hz1, hz2⟩ := info_parts info5
  have HM := hid (mark_any t bo bn bc P o w hI hn ht hnil)
  have HI := hid hI
  have hu := Lib.uvarint_length64 (head_lt t o ht)
  have hU := hid (uvarint_any B n (head t o) (head_lt t o ht) ao cap xs w hown hBw (by omega))
  have HE := hid (head_eq t o ht)
  have HTL := hid (toList_length t)
  clear hown hI
  go_enter Try.func45, Try.ntmps45
  go_wp2_with fail
  refine HM.out.mono ?_
  rintro e w' ⟨rfl, rfl⟩
  go_wp2_with fail
  rw [HE.out]
  refine hU.out.mono ?_
  rintro e w1 ⟨ao1, cap1, rfl, hown1, hfr1⟩
  have hs1 := hfr1.1.size
  have hLm := mark_range t o
  by_cases hm : mark t o = 2
  · have hmb : (mark t o != 2) = false := by simp [hm]
    obtain ⟨ys, hoy, hly⟩ := lst_some t o hm
    have HLY := hid hly
    have HOY := hid hoy
    have Hm := hid hm
    clear hm hLm hly hoy
    go_wp2_with (at_builtin; refine Lib.wpList_append_own_string _ rfl _ _ 39 9 rfl B 5 i0 Try.underlying39 Try.underlying9 hi hz0 hz1 hz2 _ _ _ rfl hown1 t rfl (by unfold maxLen; omega) (by omega) (by omega) ?_)
    intro v2 w2 hown2 hgrow2 hx2
    clear hx2
    have hfr2 : Fr B none w w2 := hfr1.grown hgrow2 hown1 (by omega)
    obtain ⟨ao2, cap2, hv2⟩ := owns_slice hown2
    rw [hv2] at hown2 ⊢
    clear hgrow2 hv2 hown1 hfr1
    have hs2 := hfr2.1.size
    go_wp2_with fail
    have hbn : ((bn : Int)) = ((bn : Nat) : Int) := rfl
    have hlb := Lib.uvarint_length64 (x := bn) (by omega)
    refine (uvarint_any B _ bn (by omega) ao2 cap2 _ w2 hown2 (by omega) (by omega)).mono ?_
    rintro e w3 ⟨ao3, cap3, rfl, hown3, hfr3⟩
    have hfr3' := hfr2.trans hfr3
    have hs3 := hfr3.1.size
    clear hown2 hfr2 hfr3
    rcases HI.out with ⟨_, _, ho⟩ | ⟨b, off, sp, ys', hbo, ho, hyl, hyc, hyr⟩
    · rw [HOY.out] at ho; cases ho
    · obtain rfl : ys = ys' := by rw [HOY.out] at ho; exact Option.some.inj ho
      have HYL := hid hyl
      have HYC := hid hyc
      have HYR := hid hyr
      clear hyl hyc hyr ho
      subst hbo
      obtain ⟨N, hN⟩ : ∃ N, N = n + (Lib.uvarint (head t o)).length + t.size + (Lib.uvarint bn).length := ⟨_, rfl⟩
      have hNle : N ≤ n + 20 + t.size := by omega
      have HN := hid hN
      rw [← hN] at hown3 ⊢
      clear hN
      obtain ⟨Y, hY⟩ : ∃ Y, Y = xs ++ (Lib.byteCells (Lib.uvarint (head t o)) ++ Lib.strCells t) ++ Lib.byteCells (Lib.uvarint bn) := ⟨_, rfl⟩
      have HYY := hid hY
      rw [← hY] at hown3
      clear hY
      go_wp2_with fail
      go_loopw [0, 34] (fun vb vi wr => ∃ (k : Nat) (ao4 : Option Addr) (cap4 : Nat), k ≤ bn ∧ vi = .int .i64 k ∧ vb = .slice ao4 (N + (vs (ys.take k)).length) cap4 ∧ wr.ownsRow B 5 1 (.slice ao4 (N + (vs (ys.take k)).length) cap4) (N + (vs (ys.take k)).length) (Y ++ Lib.byteCells (vs (ys.take k))) ∧ Fr B none w wr)
        (fun _ vi _ => bn - (intOf vi).toNat)
      case atStart => exact ⟨0, ao3, cap3, Nat.zero_le _, rfl, by simp [vs], by simpa [vs, Lib.byteCells] using hown3, hfr3'⟩
      case round =>
        obtain ⟨k, ao4, cap4, hk, rfl, rfl, hown4, hfr4⟩ := hrel
        clear hown3 hfr3'
        have hs4 := hfr4.1.size
        have hvl : (vs (ys.take k)).length ≤ 10 * k := by
          have := vs_length (ys.take k) (fun x hx => HYR.out x (List.mem_of_mem_take hx))
          rw [List.length_take] at this
          omega
        by_cases hlt : k < bn
        · obtain ⟨hsp, hbP, hck⟩ := HYC.out k hlt
          have hck4 := (hfr4.1.cell (p := ⟨b, off + k, none⟩) (show b < B by omega)).trans hck
          have HV := hid (vs_snoc ys k (by rw [HYL.out]; exact hlt))
          have hxr : -9223372036854775808 ≤ ys.getD k 0 ∧ ys.getD k 0 ≤ 9223372036854775807 := by
            refine HYR.out _ ?_
            have hk' : k < ys.length := by rw [HYL.out]; exact hlt
            simp [List.getD_eq_getElem?_getD, List.getElem?_eq_getElem hk']
          obtain ⟨x, hx⟩ : ∃ x, x = ys.getD k 0 := ⟨_, rfl⟩
          rw [← hx] at hck4 HV hxr
          clear hx hck
          obtain rfl := hsp
          go_wp2_with fail
          refine (varint_any B _ x hxr.1 hxr.2 ao4 cap4 _ wr hown4 (by omega) (by omega)).mono ?_
          rintro e w5 ⟨ao5, cap5, rfl, hown5, hfr5⟩
          have hfr5' := hfr4.trans hfr5
          clear hown4 hfr4 hfr5 hck4
          go_wp2_with fail
          go_roundw
          case rel =>
            have el : (vs (ys.take (k + 1))).length = (vs (ys.take k)).length + (Lib.uvarint (Lib.zigzag x)).length := by rw [HV.out, List.length_append]
            refine ⟨k + 1, ao5, cap5, by omega, by go_num, by rw [el, ← Nat.add_assoc], ?_, hfr5'⟩
            rw [el, ← Nat.add_assoc, HV.out, Lib.byteCells_append, ← List.append_assoc]
            exact hown5
          case measure => simp [intOf]; omega
        · go_wp2_with fail
          go_ret
          have hkk : ys.take k = ys := List.take_of_length_le (by rw [HYL.out]; omega)
          rw [hkk] at hown4 ⊢
          have el : n + (txt t o).length = N + (vs ys).length := by
            simp only [txt, HLY.out, List.length_append, HTL.out, HYL.out]
            have := HN.out
            omega
          have eY : xs ++ Lib.byteCells (txt t o) = Y ++ Lib.byteCells (vs ys) := by
            have es : Lib.strCells t = Lib.byteCells t.data.toList := rfl
            rw [HYY.out, txt, HLY.out, HYL.out, es]
            simp only [Lib.byteCells_append, List.append_assoc]
          refine ⟨ao4, cap4, by rw [el]; rfl, ?_, hfr4⟩
          rw [el, eY]
          exact hown4
  · have hmb : (mark t o != 2) = true := by simpa using hm
    have Hm := hid hm
    clear hm hLm
    go_wp2_with (at_builtin; refine Lib.wpList_append_own_string _ rfl _ _ 39 9 rfl B 5 i0 Try.underlying39 Try.underlying9 hi hz0 hz1 hz2 _ _ _ rfl hown1 t rfl (by unfold maxLen; omega) (by omega) (by omega) ?_)
    intro v2 w2 hown2 hgrow2 _
    have hfr2 : Fr B none w w2 := hfr1.grown hgrow2 hown1 (by omega)
    obtain ⟨ao2, cap2, hv2⟩ := owns_slice hown2
    rw [hv2] at hown2 ⊢
    clear hgrow2 hv2
    go_wp2
    go_ret
    have hl := lst_nil t o Hm.out
    have el : (txt t o).length = (Lib.uvarint (head t o)).length + t.size := by simp only [txt, hl, List.append_nil, List.length_append, HTL.out]
    refine ⟨ao2, cap2, by rw [el, ← Nat.add_assoc]; rfl, ?_, hfr2⟩
    rw [el, ← Nat.add_assoc, txt, hl, List.append_nil, Lib.byteCells_append]
    exact hown2

end Go.Proofs.Qxb6618748a
