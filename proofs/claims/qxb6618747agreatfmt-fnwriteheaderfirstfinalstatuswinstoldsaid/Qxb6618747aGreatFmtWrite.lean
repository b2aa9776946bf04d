/-
  The walks over responseWriter's WriteHeader and the law FnWriteHeaderFirstFinalStatusWins of seat b6618747aZF.
-/
import Derived.Test.Qxb6618747aGreatFmtProg
import Derived.WalkKit
import Derived.WalkSpells
import Derived.WalkLawsBesides
namespace Go.Proofs.Qxb6618747aGreatFmt
open Go.RowKit

theorem hid {p : Prop} (h : p) : Hid p := h

/-- One code handed to WriteHeader. -/
def stp (s c : Int) : Int := if s = 0 ∧ 200 ≤ c ∧ c ≤ 999 then c else s
/-- The status behind all of them. -/
def fin (s : Int) (zs : List Int) : Int := zs.foldl stp s

theorem fin_snoc (s : Int) (zs : List Int) (c : Int) : fin s (zs ++ [c]) = stp (fin s zs) c := by simp [fin]
theorem fin_set (s : Int) (zs : List Int) (h : s ≠ 0) : fin s zs = s := by
  unfold fin
  induction zs with
  | nil => rfl
  | cons z zs ih => rw [List.foldl_cons, show stp s z = s from by simp [stp, h]]; exact ih
theorem fin_take (s : Int) (zs : List Int) (k : Nat) (h : k < zs.length) : fin s (zs.take (k + 1)) = stp (fin s (zs.take k)) (zs.getD k 0) := by
  rw [List.take_succ_eq_append_getElem h, fin_snoc]
  simp [List.getD, h]
theorem fin_app (s : Int) (xs ys : List Int) : fin s (xs ++ ys) = fin (fin s xs) ys := by simp [fin]

set_option maxHeartbeats 400000 in
theorem wh9_any (b : Nat) (s c : Int) (w : World) (hc : w.cell? ⟨b, 2, none⟩ = some (.int .i64 s)) (hf : w.frozen? ⟨b, 2, none⟩ = false) (h1 : 100 ≤ c) (h2 : c ≤ 999) :
    Calls Tryz.prog 9 #[.pointer (some ⟨b, 0, none⟩), .int .i64 c] w fun e w' => e = .returned (.tuple #[]) ∧ w'.cell? ⟨b, 2, none⟩ = some (.int .i64 (stp s c)) ∧ w'.frozen? ⟨b, 2, none⟩ = false ∧ Below b w w' := by
  have h1' : ¬ c < 100 := by omega
  have h2' : ¬ 999 < c := by omega
  by_cases hs : s = 0
  · by_cases h3 : 200 ≤ c
    · have hs' : (s == 0) = true := by simpa using hs
      have e : stp s c = c := by simp [stp, hs, h3, h2]
      rw [e]
      subst hs
      go_enter Tryz.func9, Tryz.ntmps9
      go_wp2
      go_end0
      exact ⟨rfl, World.cell?_setCell_same _ _ _ hc, by simpa using hf, (Below.refl b w).setCell (p := ⟨b, 2, none⟩) (Nat.le_refl b) _⟩
    · have hs' : (s == 0) = true := by simpa using hs
      have e : stp s c = s := by simp [stp, h3]
      rw [e]
      subst hs
      go_enter Tryz.func9, Tryz.ntmps9
      go_wp2
      go_end0
      exact ⟨rfl, hc, hf, Below.refl _ _⟩
  · have hs' : (s == 0) = false := by simpa using hs
    have e : stp s c = s := by simp [stp, hs]
    rw [e]
    go_enter Tryz.func9, Tryz.ntmps9
    go_wp2
    go_end0
    exact ⟨rfl, hc, hf, Below.refl _ _⟩

theorem wh_any (b : Nat) (s c : Int) (w : World) (hc : w.cell? ⟨b, 2, none⟩ = some (.int .i64 s)) (hf : w.frozen? ⟨b, 2, none⟩ = false) (h1 : 100 ≤ c) (h2 : c ≤ 999) :
    Calls Tryz.prog 6 #[.pointer (some ⟨b, 0, none⟩), .int .i64 c] w fun e w' => e = .returned (.tuple #[]) ∧ w'.cell? ⟨b, 2, none⟩ = some (.int .i64 (stp s c)) ∧ w'.frozen? ⟨b, 2, none⟩ = false ∧ Below b w w' := by
  go_enter Tryz.func6, Tryz.ntmps6
  go_wp2_with (go_at_call 9; refine (wh9_any b s c _ hc hf h1 h2).mono ?_; rintro e w' ⟨rfl, hq⟩)
  go_end0
  exact ⟨rfl, hq⟩

set_option maxHeartbeats 400000 in
theorem new_any (s : Int) (w : World) :
    Calls Tryz.prog 5 #[.int .i64 s, .bool false] w fun e w' => ∃ b, e = .returned (.pointer (some ⟨b, 0, none⟩)) ∧ w.heap.size ≤ b ∧ w'.cell? ⟨b, 2, none⟩ = some (.int .i64 s) ∧ w'.frozen? ⟨b, 2, none⟩ = false ∧ Below w.heap.size w w' := by
  go_enter Tryz.func5, Tryz.ntmps5
  go_wp2
  go_ret
  exact ⟨w.heap.size + 1 + 1, rfl, by omega, by go_simp, by go_simp, (((Below.refl _ w).alloc (Nat.le_refl _) _).alloc (by simp) _).alloc (by simp; omega) _⟩

theorem code_any (b : Nat) (s : Int) (w : World) (hc : w.cell? ⟨b, 2, none⟩ = some (.int .i64 s)) :
    Calls Tryz.prog 7 #[.pointer (some ⟨b, 0, none⟩)] w fun e w' => e = .returned (.int .i64 s) ∧ w = w' := by
  go_enter Tryz.func7, Tryz.ntmps7
  go_wp2
  go_ret
  exact ⟨rfl, rfl⟩

theorem bytes_yes (s : Int) (a : Option Addr) (len cap : Nat) (w : World) (h : len ≤ 65536) :
    Calls Tryz.prog 4 #[.int .i64 s, .slice a len cap] w fun e w' => e = .returned (.bool true) ∧ w = w' := by
  go_enter Tryz.func4, Tryz.ntmps4
  go_wp2
  go_ret
  exact ⟨rfl, rfl⟩

theorem bytes_any (s : Int) (a : Option Addr) (len cap : Nat) (w : World) (h : (len : Int) ≤ 9223372036854775807) :
    Calls Tryz.prog 4 #[.int .i64 s, .slice a len cap] w fun e w' => (∃ x, e = .returned (.bool x)) ∧ w = w' := by
  go_enter Tryz.func4, Tryz.ntmps4
  go_wp2
  all_goals (go_ret; exact ⟨⟨_, rfl⟩, rfl⟩)


/-- firstFinalStatus, where a status stands already. -/
theorem ffs_set (s : Int) (a : Option Addr) (len cap : Nat) (w : World) (h : s ≠ 0) :
    Calls Tryz.prog 8 #[.int .i64 s, .slice a len cap] w fun e w' => e = .returned (.int .i64 s) ∧ w = w' := by
  have hb : (s != 0) = true := by simpa using h
  go_enter Tryz.func8, Tryz.ntmps8
  go_wp2
  go_ret
  exact ⟨rfl, rfl⟩

theorem ret_int {k : IntKind} {a b : Int} (h : a = b) : Ending.returned (.int k a) = .returned (.int k b) := by rw [h]

set_option maxHeartbeats 400000 in
theorem ffs_empty (a : Option Addr) (cap : Nat) (w : World) :
    Calls Tryz.prog 8 #[.int .i64 0, .slice a 0 cap] w fun e w' => e = .returned (.int .i64 0) ∧ w = w' := by
  go_enter Tryz.func8, Tryz.ntmps8
  go_wp2
  refine wp_loop_rounds 1 ?_
  rw [rounds_succ]
  go_wp2
  go_ret
  exact ⟨rfl, rfl⟩

set_option maxHeartbeats 400000 in
theorem ffs_zero (b off len cap : Nat) (zs : List Int) (w : World) (hm : len ≤ 65536) (hz : zs.length = len)
    (hc : ∀ i, i < len → w.cell? ⟨b, off + i, none⟩ = some (.int .i64 (zs.getD i 0))) :
    Calls Tryz.prog 8 #[.int .i64 0, .slice (some ⟨b, off, none⟩) len cap] w fun e w' => e = .returned (.int .i64 (fin 0 zs)) ∧ w = w' := by
  have HC : Hid (∀ i, i < len → w.cell? ⟨b, off + i, none⟩ = some (.int .i64 (zs.getD i 0))) := hc
  have hzl : len ≤ zs.length := by omega
  have hzg : zs.length ≤ len := by omega
  clear hc hz
  go_enter Tryz.func8, Tryz.ntmps8
  go_wp2
  go_loop [5] (fun i => ∃ k : Nat, k ≤ len ∧ i = .int .i64 k ∧ Hid (fin 0 (zs.take k) = 0)) (fun i => len - (intOf i).toNat)
  case atStart => exact ⟨0, Nat.zero_le _, rfl, rfl⟩
  case round =>
    obtain ⟨k, hk, rfl, HF⟩ := hrel
    by_cases hlt : k < len
    · have hck := HC.out k hlt
      have hft := fin_take 0 zs k (by omega)
      rw [HF.out] at hft
      have HT : Hid (fin 0 (zs.take (k + 1)) = stp 0 (zs.getD k 0)) := hft
      have hap := fin_app 0 (zs.take (k + 1)) (zs.drop (k + 1))
      rw [List.take_append_drop, hft] at hap
      have HA : Hid (fin 0 zs = fin (stp 0 (zs.getD k 0)) (zs.drop (k + 1))) := hap
      clear hft hap
      obtain ⟨c, hcc⟩ : ∃ c, c = zs.getD k 0 := ⟨_, rfl⟩
      rw [← hcc] at hck HT HA
      clear hcc
      by_cases h1 : 200 ≤ c
      · by_cases h2 : c ≤ 999
        · go_wp2
          go_ret
          refine ⟨ret_int ?_, rfl⟩
          have e : stp 0 c = c := by simp [stp, h1, h2]
          rw [HA.out, e, fin_set _ _ (by omega)]
        · have h2' : ¬ c ≤ 999 := h2
          go_wp2
          go_round
          case rel => exact ⟨k + 1, by omega, by go_num, by show _ = _; rw [HT.out]; simp [stp, h2]⟩
          case measure => simp [intOf]; omega
      · go_wp2
        go_round
        case rel => exact ⟨k + 1, by omega, by go_num, by show _ = _; rw [HT.out]; simp [stp, h1]⟩
        case measure => simp [intOf]; omega
    · go_wp2
      go_ret
      refine ⟨ret_int ?_, rfl⟩
      have := HF.out
      rw [List.take_of_length_le (by omega)] at this
      exact this.symm

theorem ret_true {x : Bool} (h : x = true) : Ending.returned (.bool x) = .returned (.bool true) := by rw [h]

/-- The law, at a slice that holds something, where no status stands yet. -/
theorem law_zero (b off len cap : Nat) (zs : List Int) (w : World) (hm : len ≤ 65536) (hz : zs.length = len) (hb : b < w.heap.size)
    (hc : ∀ i, i < len → w.cell? ⟨b, off + i, none⟩ = some (.int .i64 (zs.getD i 0))) :
    Calls Tryz.prog 3 #[.int .i64 0, .slice (some ⟨b, off, none⟩) len cap] w fun e w' => e = .returned (.bool true) ∧ Below w.heap.size w w' := by
  have HC : Hid (∀ i, i < len → w.cell? ⟨b, off + i, none⟩ = some (.int .i64 (zs.getD i 0))) := hc
  have HZ : Hid (zs.length = len) := hz
  clear hc hz
  go_enter Tryz.func3, Tryz.ntmps3
  go_wp2_with (go_at_call 4; refine (bytes_yes _ _ _ _ _ hm).mono ?_; rintro e w' ⟨rfl, rfl⟩)
  refine (new_any 0 w).mono ?_
  rintro e w1 ⟨p, rfl, hp, hcp, hfp, hB1⟩
  go_wp2_with fail
  go_loopw [6] (fun i wr => ∃ k : Nat, k ≤ len ∧ i = .int .i64 k ∧ wr.cell? ⟨p, 2, none⟩ = some (.int .i64 (fin 0 (zs.take k))) ∧ wr.frozen? ⟨p, 2, none⟩ = false ∧ Below w.heap.size w wr) (fun i _ => len - (intOf i).toNat)
  case atStart => exact ⟨0, Nat.zero_le _, rfl, hcp, hfp, hB1⟩
  case round =>
    obtain ⟨k, hk, rfl, hcp', hfp', hB⟩ := hrel
    clear hcp hfp hB1
    by_cases hlt : k < len
    · have hck := HC.out k hlt
      rw [← hB.cell (p := ⟨b, off + k, none⟩) hb] at hck
      have HT := hid (fin_take 0 zs k (by rw [HZ.out]; omega))
      obtain ⟨c, hcc⟩ : ∃ c, c = zs.getD k 0 := ⟨_, rfl⟩
      rw [← hcc] at hck HT
      clear hcc
      obtain ⟨st, hst⟩ : ∃ st, st = fin 0 (zs.take k) := ⟨_, rfl⟩
      rw [← hst] at hcp' HT
      clear hst
      by_cases h1 : c < 100
      · have e : stp st c = st := by unfold stp; rw [if_neg]; omega
        rw [e] at HT
        go_wp2_with fail
        go_roundw
        case rel => exact ⟨k + 1, by omega, by go_num, by rw [HT.out]; exact hcp', hfp', hB⟩
        case measure => simp [intOf]; omega
      · by_cases h2 : 999 < c
        · have e : stp st c = st := by unfold stp; rw [if_neg]; omega
          rw [e] at HT
          go_wp2_with fail
          go_roundw
          case rel => exact ⟨k + 1, by omega, by go_num, by rw [HT.out]; exact hcp', hfp', hB⟩
          case measure => simp [intOf]; omega
        · go_wp2_with fail
          refine (wh_any p st c wr hcp' hfp' (by omega) (by omega)).mono ?_
          rintro e w2 ⟨rfl, hc2, hf2, hb2⟩
          go_wp2_with fail
          go_roundw
          case rel => exact ⟨k + 1, by omega, by go_num, by rw [HT.out]; exact hc2, hf2, hB.trans (hb2.mono hp)⟩
          case measure => simp [intOf]; omega
    · have e : fin 0 (zs.take k) = fin 0 zs := by rw [List.take_of_length_le (by rw [HZ.out]; omega)]
      rw [e] at hcp'
      clear e
      have hcr : ∀ i, i < len → wr.cell? ⟨b, off + i, none⟩ = some (.int .i64 (zs.getD i 0)) := fun i hi => (hB.cell (p := ⟨b, off + i, none⟩) hb).trans (HC.out i hi)
      have HCr := hid hcr
      clear hcr
      go_wp2_with fail
      refine (code_any p _ _ hcp').mono ?_
      rintro e w2 ⟨rfl, rfl⟩
      go_wp2_with fail
      refine (ffs_zero b off len cap zs _ hm HZ.out HCr.out).mono ?_
      rintro e w2 ⟨rfl, rfl⟩
      go_wp2_with fail
      go_ret
      exact ⟨ret_true (by simp), hB⟩

/-- The law, at a slice that holds something, where a status stands. -/
theorem law_set (s : Int) (h200 : 200 ≤ s) (h999 : s ≤ 999) (b off len cap : Nat) (zs : List Int) (w : World) (hm : len ≤ 65536) (hz : zs.length = len) (hb : b < w.heap.size)
    (hc : ∀ i, i < len → w.cell? ⟨b, off + i, none⟩ = some (.int .i64 (zs.getD i 0))) :
    Calls Tryz.prog 3 #[.int .i64 s, .slice (some ⟨b, off, none⟩) len cap] w fun e w' => e = .returned (.bool true) ∧ Below w.heap.size w w' := by
  have HC : Hid (∀ i, i < len → w.cell? ⟨b, off + i, none⟩ = some (.int .i64 (zs.getD i 0))) := hc
  have HZ : Hid (zs.length = len) := hz
  clear hc hz
  have hne : (s != 0) = true := by rw [bne_iff_ne]; omega
  have hfs := hid (fin_set s zs (by omega))
  go_enter Tryz.func3, Tryz.ntmps3
  go_wp2_with (go_at_call 4; refine (bytes_yes _ _ _ _ _ hm).mono ?_; rintro e w' ⟨rfl, rfl⟩)
  refine (new_any s w).mono ?_
  rintro e w1 ⟨p, rfl, hp, hcp, hfp, hB1⟩
  go_wp2_with fail
  go_loopw [6] (fun i wr => ∃ k : Nat, k ≤ len ∧ i = .int .i64 k ∧ wr.cell? ⟨p, 2, none⟩ = some (.int .i64 (fin s (zs.take k))) ∧ wr.frozen? ⟨p, 2, none⟩ = false ∧ Below w.heap.size w wr) (fun i _ => len - (intOf i).toNat)
  case atStart => exact ⟨0, Nat.zero_le _, rfl, hcp, hfp, hB1⟩
  case round =>
    obtain ⟨k, hk, rfl, hcp', hfp', hB⟩ := hrel
    clear hcp hfp hB1
    by_cases hlt : k < len
    · have hck := HC.out k hlt
      rw [← hB.cell (p := ⟨b, off + k, none⟩) hb] at hck
      have HT := hid (fin_take s zs k (by rw [HZ.out]; omega))
      obtain ⟨c, hcc⟩ : ∃ c, c = zs.getD k 0 := ⟨_, rfl⟩
      rw [← hcc] at hck HT
      clear hcc
      obtain ⟨st, hst⟩ : ∃ st, st = fin s (zs.take k) := ⟨_, rfl⟩
      rw [← hst] at hcp' HT
      clear hst
      by_cases h1 : c < 100
      · have e : stp st c = st := by unfold stp; rw [if_neg]; omega
        rw [e] at HT
        go_wp2_with fail
        go_roundw
        case rel => exact ⟨k + 1, by omega, by go_num, by rw [HT.out]; exact hcp', hfp', hB⟩
        case measure => simp [intOf]; omega
      · by_cases h2 : 999 < c
        · have e : stp st c = st := by unfold stp; rw [if_neg]; omega
          rw [e] at HT
          go_wp2_with fail
          go_roundw
          case rel => exact ⟨k + 1, by omega, by go_num, by rw [HT.out]; exact hcp', hfp', hB⟩
          case measure => simp [intOf]; omega
        · go_wp2_with fail
          refine (wh_any p st c wr hcp' hfp' (by omega) (by omega)).mono ?_
          rintro e w2 ⟨rfl, hc2, hf2, hb2⟩
          go_wp2_with fail
          go_roundw
          case rel => exact ⟨k + 1, by omega, by go_num, by rw [HT.out]; exact hc2, hf2, hB.trans (hb2.mono hp)⟩
          case measure => simp [intOf]; omega
    · have e : fin s (zs.take k) = fin s zs := by rw [List.take_of_length_le (by rw [HZ.out]; omega)]
      rw [e] at hcp'
      clear e
      go_wp2_with fail
      refine (code_any p _ _ hcp').mono ?_
      rintro e w2 ⟨rfl, rfl⟩
      go_wp2_with fail
      refine (ffs_set s _ len cap _ (by omega)).mono ?_
      rintro e w2 ⟨rfl, rfl⟩
      go_wp2_with fail
      go_ret
      exact ⟨ret_true (by simp [hfs.out]), hB⟩

/-- The law, at an empty slice. -/
theorem law_empty0 (a : Option Addr) (cap : Nat) (w : World) :
    Calls Tryz.prog 3 #[.int .i64 0, .slice a 0 cap] w fun e w' => e = .returned (.bool true) ∧ Below w.heap.size w w' := by
  go_enter Tryz.func3, Tryz.ntmps3
  go_wp2_with (go_at_call 4; refine (bytes_yes _ _ _ _ _ (by omega)).mono ?_; rintro e w' ⟨rfl, rfl⟩)
  refine (new_any 0 w).mono ?_
  rintro e w1 ⟨p, rfl, hp, hcp, hfp, hB1⟩
  go_wp2_with fail
  refine wp_loop_rounds 1 ?_
  rw [rounds_succ]
  go_wp2_with fail
  refine (code_any p _ _ hcp).mono ?_
  rintro e w2 ⟨rfl, rfl⟩
  go_wp2_with fail
  refine (ffs_empty a cap _).mono ?_
  rintro e w2 ⟨rfl, rfl⟩
  go_wp2_with fail
  go_ret
  exact ⟨ret_true (by simp), hB1⟩

theorem law_emptyS (s : Int) (h200 : 200 ≤ s) (h999 : s ≤ 999) (a : Option Addr) (cap : Nat) (w : World) :
    Calls Tryz.prog 3 #[.int .i64 s, .slice a 0 cap] w fun e w' => e = .returned (.bool true) ∧ Below w.heap.size w w' := by
  have hne : (s != 0) = true := by rw [bne_iff_ne]; omega
  go_enter Tryz.func3, Tryz.ntmps3
  go_wp2_with (go_at_call 4; refine (bytes_yes _ _ _ _ _ (by omega)).mono ?_; rintro e w' ⟨rfl, rfl⟩)
  refine (new_any s w).mono ?_
  rintro e w1 ⟨p, rfl, hp, hcp, hfp, hB1⟩
  go_wp2_with fail
  refine wp_loop_rounds 1 ?_
  rw [rounds_succ]
  go_wp2_with fail
  refine (code_any p _ _ hcp).mono ?_
  rintro e w2 ⟨rfl, rfl⟩
  go_wp2_with fail
  refine (ffs_set s a 0 cap _ (by omega)).mono ?_
  rintro e w2 ⟨rfl, rfl⟩
  go_wp2_with fail
  go_ret
  exact ⟨ret_true (by simp), hB1⟩

/-- The law, where its own bounds turn the input away. -/
theorem law_long (s : Int) (a : Option Addr) (len cap : Nat) (w : World) (hm : 65536 < len) (hx : (len : Int) ≤ 9223372036854775807) :
    Calls Tryz.prog 3 #[.int .i64 s, .slice a len cap] w fun e w' => e = .returned (.bool true) ∧ Below w.heap.size w w' := by
  go_enter Tryz.func3, Tryz.ntmps3
  go_wp2_with fail
  refine (bytes_any s a len cap w hx).mono ?_
  rintro e w' ⟨⟨x, rfl⟩, rfl⟩
  cases x
  · go_wp2_with fail
    go_ret
    exact ⟨rfl, Below.refl _ _⟩
  · go_wp2_with fail
    go_ret
    exact ⟨rfl, Below.refl _ _⟩

theorem law_odd (s : Int) (a : Option Addr) (len cap : Nat) (w : World) (hm : len ≤ 65536) (hs : s ≠ 0) (ho : s < 200 ∨ 999 < s) :
    Calls Tryz.prog 3 #[.int .i64 s, .slice a len cap] w fun e w' => e = .returned (.bool true) ∧ Below w.heap.size w w' := by
  have hne : (s != 0) = true := by simpa using hs
  rcases ho with ho | ho
  · go_enter Tryz.func3, Tryz.ntmps3
    go_wp2_with (go_at_call 4; refine (bytes_yes _ _ _ _ _ hm).mono ?_; rintro e w' ⟨rfl, rfl⟩)
    go_ret
    exact ⟨rfl, Below.refl _ _⟩
  · have ho' : ¬ s < 200 := by omega
    go_enter Tryz.func3, Tryz.ntmps3
    go_wp2_with (go_at_call 4; refine (bytes_yes _ _ _ _ _ hm).mono ?_; rintro e w' ⟨rfl, rfl⟩)
    go_ret
    exact ⟨rfl, Below.refl _ _⟩

end Go.Proofs.Qxb6618747aGreatFmt
