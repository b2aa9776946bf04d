/-
  Seat b6618748a: the tokens that came in, as data; zzBytes.
-/
import Derived.Test.Qxb6618748aWhole
namespace Go.Proofs.Qxb6618748a
open Go.RowKit
set_option linter.unusedVariables false

/-- One text with its numbers, as it came in. -/
def InText (w : World) (B : Nat) (tok : ByteArray) (bits : Nat) (bytes : Option (List Int)) (a : Option Addr) (n c : Nat) : Prop :=
  IntsAt w B a n bytes ∧ tok.size ≤ 9223372036854775807 ∧ n ≤ 9223372036854775807 ∧ bits < 18446744073709551616 ∧ (a = none → c = 0)

def InCands (w : World) (B : Nat) (ao : Option Addr) (n : Nat) (o : Option (List CandD)) : Prop :=
  (ao = none ∧ n = 0 ∧ o = none) ∨
  ∃ b off sp cs, ao = some ⟨b, off, sp⟩ ∧ o = some cs ∧ cs.length = n ∧ n ≤ 9223372036854775807 ∧
    ∀ i c, cs[i]? = some c → ∃ a m k, sp = none ∧ b < B ∧ w.cell? ⟨b, off + i * 3, none⟩ = some (.string c.tok) ∧ w.cell? ⟨b, off + i * 3 + 1, none⟩ = some (.float .f64 c.bits) ∧
      w.cell? ⟨b, off + i * 3 + 2, none⟩ = some (.slice a m k) ∧ InText w B c.tok c.bits c.bytes a m k

def InTok (w : World) (B : Nat) (t : TokD) (ba : Option Addr) (bn bc : Nat) (ca : Option Addr) (cn cc : Nat) : Prop :=
  InText w B t.tok t.bits t.bytes ba bn bc ∧ InCands w B ca cn t.cands ∧ (ca = none → cc = 0)

/-- The tokens that came in. -/
def InToks (w : World) (B : Nat) (ao : Option Addr) (n : Nat) (ts : List TokD) : Prop :=
  (ao = none ∧ n = 0 ∧ ts = []) ∨
  ∃ b off sp, ao = some ⟨b, off, sp⟩ ∧ ts.length = n ∧ n ≤ 9223372036854775807 ∧
    ∀ i t, ts[i]? = some t → sp = none ∧ b < B ∧ ∃ ba bn bc ca cn cc, TokCells w b (off + i * 4) t ba bn bc ca cn cc ∧ InTok w B t ba bn bc ca cn cc

def olen {α : Type} (o : Option (List α)) : Nat := match o with | none => 0 | some l => l.length
def wCand (c : CandD) : Nat := c.tok.size + olen c.bytes
def wCands (cs : List CandD) : Nat := (cs.map wCand).sum
def oCands (o : Option (List CandD)) : List CandD := o.getD []
def wTok (t : TokD) : Nat := t.tok.size + olen t.bytes + (oCands t.cands).length + wCands (oCands t.cands)
def wToks (ts : List TokD) : Nat := (ts.map wTok).sum

theorem IntsAt.olen {w : World} {P : Nat} {ao : Option Addr} {n : Nat} {o : Option (List Int)} (h : IntsAt w P ao n o) : olen o = n := by
  rcases h with ⟨_, rfl, rfl⟩ | ⟨b, off, sp, xs, _, rfl, h3, _⟩
  · rfl
  · exact h3
theorem InCands.olen {w : World} {B : Nat} {ao : Option Addr} {n : Nat} {o : Option (List CandD)} (h : InCands w B ao n o) : (oCands o).length = n := by
  rcases h with ⟨_, rfl, rfl⟩ | ⟨b, off, sp, xs, _, rfl, h3, _⟩
  · rfl
  · exact h3
theorem wCands_snoc (cs : List CandD) (k : Nat) (c : CandD) (h : cs[k]? = some c) : wCands (cs.take (k + 1)) = wCands (cs.take k) + wCand c := by
  obtain ⟨hk, rfl⟩ := List.getElem?_eq_some_iff.1 h
  rw [List.take_succ_eq_append_getElem hk, wCands, List.map_append, List.sum_append]
  simp [wCands]
theorem wToks_snoc (ts : List TokD) (k : Nat) (t : TokD) (h : ts[k]? = some t) : wToks (ts.take (k + 1)) = wToks (ts.take k) + wTok t := by
  obtain ⟨hk, rfl⟩ := List.getElem?_eq_some_iff.1 h
  rw [List.take_succ_eq_append_getElem hk, wToks, List.map_append, List.sum_append]
  simp [wToks]

/-- A bool came back; where it is true, p holds. -/
def Told (e : Ending) (p : Prop) : Prop := ∃ x : Bool, e = .returned (.bool x) ∧ (x = true → p)
theorem told_no {e : Ending} {p : Prop} (h : e = .returned (.bool false)) : Told e p := ⟨false, h, fun h => by cases h⟩
theorem told_yes {e : Ending} {p : Prop} (h : e = .returned (.bool true)) (hp : p) : Told e p := ⟨true, h, fun _ => hp⟩

set_option maxHeartbeats 8000000 in
set_option maxRecDepth 100000 in
theorem bytes_any (s : ByteArray) (ao : Option Addr) (n cap B : Nat) (ts : List TokD) (w : World) (hs : s.size ≤ 9223372036854775807) (hT : InToks w B ao n ts) :
    Calls Try.prog 22 #[.string s, .slice ao n cap] w fun e w' => Told e (s.size + n + wToks ts ≤ 1048576) ∧ w = w' := by
  by_cases c1 : s.size ≤ 1048576
  case neg =>
    go_enter Try.func22, Try.ntmps22
    go_wp2
    go_ret
    exact ⟨told_no rfl, rfl⟩
  by_cases c2 : n ≤ 1048576
  case neg =>
    have hn : n ≤ 9223372036854775807 := by
      rcases hT with ⟨_, rfl, _⟩ | ⟨_, _, _, _, _, h, _⟩
      · omega
      · exact h
    clear hT
    go_enter Try.func22, Try.ntmps22
    go_wp2
    go_ret
    exact ⟨told_no rfl, rfl⟩
  by_cases c3 : s.size + n ≤ 1048576
  case neg =>
    clear hT
    go_enter Try.func22, Try.ntmps22
    go_wp2
    go_ret
    exact ⟨told_no rfl, rfl⟩
  rcases hT with ⟨rfl, rfl, rfl⟩ | ⟨b, off, sp, rfl, hl, hn, ht⟩
  · go_enter Try.func22, Try.ntmps22
    go_wp2
    refine wp_loop_rounds 1 ?_
    rw [rounds_succ]
    go_wp2
    go_ret
    exact ⟨told_yes rfl (by simp [wToks]; omega), rfl⟩
  · have HL := hid hl
    have HT := hid ht
    clear hl ht
    go_enter Try.func22, Try.ntmps22
    go_wp2
    go_loop [5, 6] (fun vz vi => ∃ (k z : Nat), k ≤ n ∧ vi = .int .i64 k ∧ vz = .int .i64 z ∧ Hid (z = s.size + n + wToks (ts.take k)) ∧ z ≤ 1048576) (fun _ vi => n - (intOf vi).toNat)
    case atStart => exact ⟨0, s.size + n, Nat.zero_le _, rfl, by go_num, by simp [Hid, wToks], c3⟩
    case round =>
      obtain ⟨k, z, hk, rfl, rfl, HZ, hz⟩ := hrel
      by_cases hlt : k < n
      · obtain ⟨t, ht⟩ : ∃ t, ts[k]? = some t := ⟨ts[k]'(by rw [HL.out]; exact hlt), List.getElem?_eq_getElem _⟩
        obtain ⟨hsp, hb, ba, bn, bc, ca, cn, cc, ⟨q0, q1, q2, q3⟩, ⟨hI, hts, hbn, _, _⟩, hC, _⟩ := HT.out k t ht
        have HW := hid (wToks_snoc ts k t ht)
        have HI := hid hI.olen
        have HCo := hid hC.olen
        have HC := hid hC
        clear ht hI hC
        obtain rfl := hsp
        by_cases d1 : t.tok.size ≤ 1048576
        case neg => go_wp2; go_ret; exact ⟨told_no rfl, rfl⟩
        by_cases d2 : z + t.tok.size ≤ 1048576
        case neg => go_wp2; go_ret; exact ⟨told_no rfl, rfl⟩
        by_cases d3 : bn ≤ 1048576
        case neg => go_wp2; go_ret; exact ⟨told_no rfl, rfl⟩
        by_cases d4 : z + t.tok.size + bn ≤ 1048576
        case neg => go_wp2; go_ret; exact ⟨told_no rfl, rfl⟩
        rcases HC.out with ⟨hca, hcn, ho⟩ | ⟨cb, coff, csp, cs, hca, ho, hcl, hcn, hcs⟩
        · have hwt : wTok t = t.tok.size + bn + 0 + 0 := by
            unfold wTok
            rw [HI.out, ho]
            rfl
          have HWt := hid hwt
          clear hwt ho HC HCo
          subst hca hcn
          go_wp2
          refine wp_loop_rounds 1 ?_
          rw [rounds_succ]
          go_wp2
          go_round
          case rel => exact ⟨k + 1, z + t.tok.size + bn, by omega, by go_num, by go_num, (by have h1 := HZ.out; have h2 := HW.out; have h3 := HWt.out; show _ = _; omega), d4⟩
          case measure => simp [intOf]; omega
        · have hoc : oCands t.cands = cs := by rw [ho]; rfl
          have hwt : wTok t = t.tok.size + bn + cn + wCands cs := by
            unfold wTok
            rw [HI.out, HCo.out, hoc]
          have HWt := hid hwt
          have HCL := hid hcl
          have HCS := hid hcs
          clear hwt ho HC HCo hoc hcl hcs
          subst hca
          by_cases d5 : cn ≤ 1048576
          case neg => go_wp2; go_ret; exact ⟨told_no rfl, rfl⟩
          by_cases d6 : z + t.tok.size + bn + cn ≤ 1048576
          case neg => go_wp2; go_ret; exact ⟨told_no rfl, rfl⟩
          go_wp2
          go_loop [5, 7] (fun vz vj => ∃ (m y : Nat), m ≤ cn ∧ vj = .int .i64 m ∧ vz = .int .i64 y ∧ Hid (y = z + t.tok.size + bn + cn + wCands (cs.take m)) ∧ y ≤ 1048576) (fun _ vj => cn - (intOf vj).toNat)
          case atStart => exact ⟨0, z + t.tok.size + bn + cn, Nat.zero_le _, rfl, by go_num, by simp [Hid, wCands], d6⟩
          case round =>
            obtain ⟨m, y, hm, rfl, rfl, HY, hy⟩ := hrel
            by_cases hml : m < cn
            · obtain ⟨c, hc⟩ : ∃ c, cs[m]? = some c := ⟨cs[m]'(by rw [HCL.out]; exact hml), List.getElem?_eq_getElem _⟩
              obtain ⟨a5, m5, k5, hsp, hb5, g4, g5, g6, ⟨gI, gts, gm5, _, _⟩⟩ := HCS.out m c hc
              have HV := hid (wCands_snoc cs m c hc)
              have HO := hid gI.olen
              clear hc gI
              obtain rfl := hsp
              by_cases e1 : c.tok.size ≤ 1048576
              case neg => go_wp2; go_ret; exact ⟨told_no rfl, rfl⟩
              by_cases e2 : y + c.tok.size ≤ 1048576
              case neg => go_wp2; go_ret; exact ⟨told_no rfl, rfl⟩
              by_cases e3 : m5 ≤ 1048576
              case neg => go_wp2; go_ret; exact ⟨told_no rfl, rfl⟩
              by_cases e4 : y + c.tok.size + m5 ≤ 1048576
              case neg => go_wp2; go_ret; exact ⟨told_no rfl, rfl⟩
              go_wp2
              go_round
              case rel => exact ⟨m + 1, y + c.tok.size + m5, by omega, by go_num, by go_num, (by have h1 := HY.out; have h2 := HV.out; have h3 := HO.out; unfold wCand at h2; show _ = _; omega), e4⟩
              case measure => simp [intOf]; omega
            · go_wp2
              go_round
              case rel => exact ⟨k + 1, y, by omega, by go_num, rfl, (by have h1 := HZ.out; have h2 := HW.out; have h3 := HWt.out; have h4 := HY.out; rw [List.take_of_length_le (by rw [HCL.out]; omega)] at h4; show _ = _; omega), hy⟩
              case measure => simp [intOf]; omega
      · go_wp2
        go_ret
        refine ⟨told_yes rfl ?_, rfl⟩
        have h := HZ.out
        rw [List.take_of_length_le (by rw [HL.out]; omega)] at h
        omega

end Go.Proofs.Qxb6618748a
