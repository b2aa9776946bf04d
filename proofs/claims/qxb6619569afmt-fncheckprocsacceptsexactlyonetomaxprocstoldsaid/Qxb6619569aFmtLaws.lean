/-
  The walks of the two laws of seat b6619569aF, out of the contract of ZZcheckProcs.
-/
import Derived.Test.Qxb6619569aFmtCheckProcs
namespace Go.Proofs.Qxb6619569aFmt
open Go.RowKit Go.Extern.Stop Go.Stop Go.Extern

theorem hid {p : Prop} (h : p) : Hid p := h
theorem ret_true {x : Bool} (h : x = true) : Ending.returned (.bool x) = .returned (.bool true) := by rw [h]

theorem law3_in (n : Int) (w : World) (h1 : 1 ≤ n) (h2 : n ≤ 1024) :
    Calls Tryf.prog 3 #[.int .i64 n] w fun e w' => e = .returned (.bool true) ∧ Below w.heap.size w w' := by
  go_enter Tryf.func3, Tryf.ntmps3
  go_wp2_with fail
  refine (cp_ok n w h1 h2).mono ?_
  rintro e w' ⟨rfl, rfl⟩
  go_wp2_with fail
  refine (cp_ok (1025 - n) _ (by omega) (by omega)).mono ?_
  rintro e w' ⟨rfl, rfl⟩
  go_wp2_with fail
  go_ret
  exact ⟨rfl, Below.refl _ _⟩

theorem mirror_out (n : Int) (h1 : -9223372036854775808 ≤ n) (h2 : n ≤ 9223372036854775807) (hn : n < 1 ∨ 1024 < n) : wrap64 (1025 - n) < 1 ∨ 1024 < wrap64 (1025 - n) := by
  unfold wrap64
  omega

theorem u64_out (n : Int) (h1 : -9223372036854775808 ≤ n) (h2 : n ≤ 9223372036854775807) (hn : n < 1 ∨ 1024 < n) : ¬ IntKind.u64.wrap (IntKind.u64.wrap n - 1) < 1024 := by
  simp only [IntKind.wrap, IntKind.signed, IntKind.bits]
  simp
  omega

theorem law3_out (F : Interp) (n : Int) (w : World) (hF : F.answers w.tape) (h1 : -9223372036854775808 ≤ n) (h2 : n ≤ 9223372036854775807) (hn : n < 1 ∨ 1024 < n) :
    Calls Tryf.prog 3 #[.int .i64 n] w fun e w' => e = .returned (.bool true) ∧ Below w.heap.size w w' := by
  have hm := hid (mirror_out n h1 h2 hn)
  have hu := u64_out n h1 h2 hn
  go_enter Tryf.func3, Tryf.ntmps3
  go_wp2_with fail
  refine (cp_bad F n w hF hn).mono ?_
  rintro e w1 ⟨⟨a, rfl⟩, ht1, hb1⟩
  have hF1 : F.answers w1.tape := by rw [ht1]; exact hF
  clear ht1
  go_wp2_with fail
  refine (cp_bad F (wrap64 (1025 - n)) w1 hF1 hm.out).mono ?_
  rintro e w2 ⟨⟨a2, rfl⟩, ht2, hb2⟩
  clear ht2
  go_wp2_with fail
  go_ret
  exact ⟨ret_true (by rw [decide_eq_false (u64_out n h1 h2 hn)]; rfl), hb1.trans (hb2.mono hb1.size)⟩

/-- Both refused. -/
theorem law4_out (F : Interp) (n : Int) (w : World) (hF : F.answers w.tape) (h1 : -9223372036854775808 ≤ n) (h2 : n ≤ 9223372036854775807) (hn : n < 0 ∨ 1024 < n) :
    Calls Tryf.prog 4 #[.int .i64 n] w fun e w' => e = .returned (.bool true) ∧ Below w.heap.size w w' := by
  have hm := hid (show wrap64 (n + 1) < 1 ∨ 1024 < wrap64 (n + 1) from by unfold wrap64; omega)
  have hz : (n == 0) = false := beq_eq_false_iff_ne.2 (by omega)
  have hk : (n == 1024) = false := beq_eq_false_iff_ne.2 (by omega)
  have H2 := hid h2
  clear h2
  go_enter Tryf.func4, Tryf.ntmps4
  go_wp2_with fail
  refine (cp_bad F n w hF (by omega)).mono ?_
  rintro e w1 ⟨⟨a, rfl⟩, ht1, hb1⟩
  have hF1 : F.answers w1.tape := by rw [ht1]; exact hF
  clear ht1
  go_wp2_with fail
  refine (cp_bad F (wrap64 (n + 1)) w1 hF1 hm.out).mono ?_
  rintro e w2 ⟨⟨a2, rfl⟩, ht2, hb2⟩
  clear ht2
  go_wp2_with fail
  go_ret
  exact ⟨rfl, hb1.trans (hb2.mono hb1.size)⟩

/-- Both accepted. -/
theorem law4_in (n : Int) (w : World) (h1 : 1 ≤ n) (h2 : n ≤ 1023) :
    Calls Tryf.prog 4 #[.int .i64 n] w fun e w' => e = .returned (.bool true) ∧ Below w.heap.size w w' := by
  have hz : (n == 0) = false := beq_eq_false_iff_ne.2 (by omega)
  have hk : (n == 1024) = false := beq_eq_false_iff_ne.2 (by omega)
  go_enter Tryf.func4, Tryf.ntmps4
  go_wp2_with fail
  refine (cp_ok n w h1 (by omega)).mono ?_
  rintro e w' ⟨rfl, rfl⟩
  go_wp2_with fail
  refine (cp_ok (n + 1) _ (by omega) (by omega)).mono ?_
  rintro e w' ⟨rfl, rfl⟩
  go_wp2_with fail
  go_ret
  exact ⟨rfl, Below.refl _ _⟩

theorem law4_low (F : Interp) (w : World) (hF : F.answers w.tape) :
    Calls Tryf.prog 4 #[.int .i64 0] w fun e w' => e = .returned (.bool true) ∧ Below w.heap.size w w' := by
  go_enter Tryf.func4, Tryf.ntmps4
  go_wp2_with fail
  refine (cp_bad F 0 w hF (by omega)).mono ?_
  rintro e w1 ⟨⟨a, rfl⟩, ht1, hb1⟩
  clear ht1
  go_wp2_with fail
  refine (cp_ok 1 _ (by omega) (by omega)).mono ?_
  rintro e w' ⟨rfl, rfl⟩
  go_wp2_with fail
  go_ret
  exact ⟨rfl, hb1⟩

theorem law4_high (F : Interp) (w : World) (hF : F.answers w.tape) :
    Calls Tryf.prog 4 #[.int .i64 1024] w fun e w' => e = .returned (.bool true) ∧ Below w.heap.size w w' := by
  go_enter Tryf.func4, Tryf.ntmps4
  go_wp2_with fail
  refine (cp_ok 1024 _ (by omega) (by omega)).mono ?_
  rintro e w' ⟨rfl, rfl⟩
  go_wp2_with fail
  refine (cp_bad F 1025 _ hF (by omega)).mono ?_
  rintro e w1 ⟨⟨a, rfl⟩, ht1, hb1⟩
  clear ht1
  go_wp2_with fail
  go_ret
  exact ⟨rfl, hb1⟩

theorem law3_any (F : Interp) (n : Int) (w : World) (hF : F.answers w.tape) (h1 : -9223372036854775808 ≤ n) (h2 : n ≤ 9223372036854775807) :
    Calls Tryf.prog 3 #[.int .i64 n] w fun e w' => e = .returned (.bool true) ∧ Below w.heap.size w w' := by
  by_cases hn : n < 1 ∨ 1024 < n
  · exact law3_out F n w hF h1 h2 hn
  · exact law3_in n w (by omega) (by omega)

theorem law4_any (F : Interp) (n : Int) (w : World) (hF : F.answers w.tape) (h1 : -9223372036854775808 ≤ n) (h2 : n ≤ 9223372036854775807) :
    Calls Tryf.prog 4 #[.int .i64 n] w fun e w' => e = .returned (.bool true) ∧ Below w.heap.size w w' := by
  by_cases hn : n < 0 ∨ 1024 < n
  · exact law4_out F n w hF h1 h2 hn
  · by_cases h0 : n = 0
    · subst h0; exact law4_low F w hF
    · by_cases hk : n = 1024
      · subst hk; exact law4_high F w hF
      · exact law4_in n w (by omega) (by omega)

end Go.Proofs.Qxb6619569aFmt
