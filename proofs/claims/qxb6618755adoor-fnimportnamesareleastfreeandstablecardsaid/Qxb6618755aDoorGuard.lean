/-
  Seat b6618755aD: strings that came in, as data; the guards zzBytes and gfb1TooBig.
-/
import Derived.Test.Qxb6618755aDoorNames
import Derived.WalkKit
import Derived.WalkSpells
import Derived.WalkLawsBesides
namespace Go.Proofs.Qxb6618755aDoor
open Go.RowKit
set_option linter.unusedVariables false

/-- A slice of strings. -/
def StrsAt (w : World) (P : Nat) (ao : Option Addr) (n : Nat) (xs : List ByteArray) : Prop :=
  xs.length = n ∧ n ≤ 9223372036854775807 ∧ (∀ x ∈ xs, x.size ≤ 9223372036854775807) ∧
  ∀ i, i < n → ∃ b off, ao = some ⟨b, off, none⟩ ∧ b < P ∧ w.cell? ⟨b, off + i, none⟩ = some (.string (xs.getD i ByteArray.empty))

theorem StrsAt.below {w w' : World} {P : Nat} {ao : Option Addr} {n : Nat} {xs : List ByteArray} (h : StrsAt w P ao n xs) (hb : Below P w w') : StrsAt w' P ao n xs := by
  refine ⟨h.1, h.2.1, h.2.2.1, fun i hi => ?_⟩
  obtain ⟨b, off, h1, h2, h3⟩ := h.2.2.2 i hi
  exact ⟨b, off, h1, h2, (hb.cell (p := ⟨b, off + i, none⟩) h2).trans h3⟩

theorem getD_mem {xs : List ByteArray} {i : Nat} (h : i < xs.length) : xs.getD i ByteArray.empty ∈ xs := by
  rw [List.getD_eq_getElem?_getD, List.getElem?_eq_getElem h]
  exact List.getElem_mem h

theorem all_of_getD {xs : List ByteArray} {p : ByteArray → Prop} (h : ∀ i, i < xs.length → p (xs.getD i ByteArray.empty)) : ∀ x ∈ xs, p x := by
  intro x hx
  obtain ⟨i, hi, rfl⟩ := List.mem_iff_getElem.1 hx
  have := h i hi
  rwa [List.getD_eq_getElem?_getD, List.getElem?_eq_getElem hi] at this

/-- A bool came back; where it is true, p holds. -/
def Told (e : Ending) (p : Prop) : Prop := ∃ x : Bool, e = .returned (.bool x) ∧ (x = true → p)
theorem told_no {e : Ending} {p : Prop} (h : e = .returned (.bool false)) : Told e p := ⟨false, h, fun h => by cases h⟩
theorem told_yes {e : Ending} {p : Prop} (h : e = .returned (.bool true)) (hp : p) : Told e p := ⟨true, h, fun _ => hp⟩

def Small (xs : List ByteArray) (k : Nat) : Prop := ∀ i, i < k → (xs.getD i ByteArray.empty).size ≤ 1048576
theorem Small.succ {xs : List ByteArray} {k : Nat} (h : Small xs k) (hk : (xs.getD k ByteArray.empty).size ≤ 1048576) : Small xs (k + 1) := fun i hi => by
  by_cases e : i = k
  · rw [e]; exact hk
  · exact h i (by omega)
def AllSmall (xs : List ByteArray) : Prop := ∀ x ∈ xs, x.size ≤ 1048576
theorem Small.all {xs : List ByteArray} {k : Nat} (h : Small xs k) (hk : xs.length ≤ k) : AllSmall xs := all_of_getD fun i hi => h i (by omega)

set_option maxHeartbeats 8000000 in
set_option maxRecDepth 100000 in
theorem zz20 (a1 a2 : Option Addr) (n1 c1 n2 c2 P : Nat) (xs1 xs2 : List ByteArray) (s : ByteArray) (w : World) (h1 : StrsAt w P a1 n1 xs1) (h2 : StrsAt w P a2 n2 xs2) (hs : s.size ≤ 9223372036854775807) :
    Calls Tryd.prog 20 #[.slice a1 n1 c1, .slice a2 n2 c2, .string s] w fun e w' => Told e (AllSmall xs1 ∧ AllSmall xs2) ∧ w = w' := by
  obtain ⟨hl1, hn1, hx1, hc1⟩ := h1
  obtain ⟨hl2, hn2, hx2, hc2⟩ := h2
  have HL1 := hid hl1
  have HL2 := hid hl2
  have HX1 := hid hx1
  have HX2 := hid hx2
  have HC1 := hid hc1
  have HC2 := hid hc2
  clear hl1 hl2 hx1 hx2 hc1 hc2
  by_cases d1 : n1 ≤ 1048576
  case neg =>
    go_enter Tryd.func20, Tryd.ntmps20
    go_wp2
    go_ret
    exact ⟨told_no rfl, rfl⟩
  go_enter Tryd.func20, Tryd.ntmps20
  go_wp2
  go_loop [7, 8] (fun vz vi => ∃ (k z : Nat), k ≤ n1 ∧ vi = .int .i64 k ∧ vz = .int .i64 z ∧ Hid (Small xs1 k) ∧ z ≤ 1048576) (fun _ vi => n1 - (intOf vi).toNat)
  case atStart => exact ⟨0, n1, Nat.zero_le _, rfl, by go_num, (fun i hi => by omega), d1⟩
  case round =>
    obtain ⟨k, z, hk, rfl, rfl, HZ, hz⟩ := hrel
    by_cases hlt : k < n1
    · obtain ⟨b, off, rfl, hb, hc⟩ := HC1.out k hlt
      have hxs := HX1.out _ (getD_mem (xs := xs1) (i := k) (by rw [HL1.out]; exact hlt))
      obtain ⟨x, hx⟩ : ∃ x, x = xs1.getD k ByteArray.empty := ⟨_, rfl⟩
      rw [← hx] at hc hxs
      have HX := hid hx
      clear hx
      by_cases e1 : x.size ≤ 1048576
      case neg => go_wp2; go_ret; exact ⟨told_no rfl, rfl⟩
      by_cases e2 : z + x.size ≤ 1048576
      case neg => go_wp2; go_ret; exact ⟨told_no rfl, rfl⟩
      go_wp2
      go_round
      case rel => exact ⟨k + 1, z + x.size, by omega, by go_num, by go_num, HZ.out.succ (HX.out ▸ e1), e2⟩
      case measure => simp [intOf]; omega
    · by_cases e1 : n2 ≤ 1048576
      case neg => go_wp2; go_ret; exact ⟨told_no rfl, rfl⟩
      by_cases e2 : z + n2 ≤ 1048576
      case neg => go_wp2; go_ret; exact ⟨told_no rfl, rfl⟩
      go_wp2
      go_loop [7, 9] (fun vz vi => ∃ (j y : Nat), j ≤ n2 ∧ vi = .int .i64 j ∧ vz = .int .i64 y ∧ Hid (Small xs2 j) ∧ y ≤ 1048576) (fun _ vi => n2 - (intOf vi).toNat)
      case atStart => exact ⟨0, z + n2, Nat.zero_le _, rfl, by go_num, (fun i hi => by omega), e2⟩
      case round =>
        obtain ⟨j, y, hj, rfl, rfl, HY, hy⟩ := hrel
        by_cases hjt : j < n2
        · obtain ⟨b, off, rfl, hb, hc⟩ := HC2.out j hjt
          have hxs := HX2.out _ (getD_mem (xs := xs2) (i := j) (by rw [HL2.out]; exact hjt))
          obtain ⟨x, hx⟩ : ∃ x, x = xs2.getD j ByteArray.empty := ⟨_, rfl⟩
          rw [← hx] at hc hxs
          have HX := hid hx
          clear hx
          by_cases f1 : x.size ≤ 1048576
          case neg => go_wp2; go_ret; exact ⟨told_no rfl, rfl⟩
          by_cases f2 : y + x.size ≤ 1048576
          case neg => go_wp2; go_ret; exact ⟨told_no rfl, rfl⟩
          go_wp2
          go_round
          case rel => exact ⟨j + 1, y + x.size, by omega, by go_num, by go_num, HY.out.succ (HX.out ▸ f1), f2⟩
          case measure => simp [intOf]; omega
        · by_cases f1 : s.size ≤ 1048576
          case neg => go_wp2; go_ret; exact ⟨told_no rfl, rfl⟩
          by_cases f2 : y + s.size ≤ 1048576
          case neg => go_wp2; go_ret; exact ⟨told_no rfl, rfl⟩
          go_wp2
          go_ret
          exact ⟨told_yes rfl ⟨HZ.out.all (by rw [HL1.out]; omega), HY.out.all (by rw [HL2.out]; omega)⟩, rfl⟩

set_option maxHeartbeats 8000000 in
set_option maxRecDepth 100000 in
theorem zz19 (a1 a2 : Option Addr) (n1 c1 n2 c2 P : Nat) (xs1 xs2 : List ByteArray) (s : ByteArray) (w : World) (h1 : StrsAt w P a1 n1 xs1) (h2 : StrsAt w P a2 n2 xs2) (hs : s.size ≤ 9223372036854775807) :
    Calls Tryd.prog 19 #[.slice a1 n1 c1, .slice a2 n2 c2, .string s] w fun e w' => Told e (AllSmall xs1 ∧ AllSmall xs2) ∧ w = w' := by
  obtain ⟨hl1, hn1, hx1, hc1⟩ := h1
  obtain ⟨hl2, hn2, hx2, hc2⟩ := h2
  have HL1 := hid hl1
  have HL2 := hid hl2
  have HX1 := hid hx1
  have HX2 := hid hx2
  have HC1 := hid hc1
  have HC2 := hid hc2
  clear hl1 hl2 hx1 hx2 hc1 hc2
  by_cases d1 : n1 ≤ 1048576
  case neg =>
    go_enter Tryd.func19, Tryd.ntmps19
    go_wp2
    go_ret
    exact ⟨told_no rfl, rfl⟩
  go_enter Tryd.func19, Tryd.ntmps19
  go_wp2
  go_loop [7, 8] (fun vz vi => ∃ (k z : Nat), k ≤ n1 ∧ vi = .int .i64 k ∧ vz = .int .i64 z ∧ Hid (Small xs1 k) ∧ z ≤ 1048576) (fun _ vi => n1 - (intOf vi).toNat)
  case atStart => exact ⟨0, n1, Nat.zero_le _, rfl, by go_num, (fun i hi => by omega), d1⟩
  case round =>
    obtain ⟨k, z, hk, rfl, rfl, HZ, hz⟩ := hrel
    by_cases hlt : k < n1
    · obtain ⟨b, off, rfl, hb, hc⟩ := HC1.out k hlt
      have hxs := HX1.out _ (getD_mem (xs := xs1) (i := k) (by rw [HL1.out]; exact hlt))
      obtain ⟨x, hx⟩ : ∃ x, x = xs1.getD k ByteArray.empty := ⟨_, rfl⟩
      rw [← hx] at hc hxs
      have HX := hid hx
      clear hx
      by_cases e1 : x.size ≤ 1048576
      case neg => go_wp2; go_ret; exact ⟨told_no rfl, rfl⟩
      by_cases e2 : z + x.size ≤ 1048576
      case neg => go_wp2; go_ret; exact ⟨told_no rfl, rfl⟩
      go_wp2
      go_round
      case rel => exact ⟨k + 1, z + x.size, by omega, by go_num, by go_num, HZ.out.succ (HX.out ▸ e1), e2⟩
      case measure => simp [intOf]; omega
    · by_cases e1 : n2 ≤ 1048576
      case neg => go_wp2; go_ret; exact ⟨told_no rfl, rfl⟩
      by_cases e2 : z + n2 ≤ 1048576
      case neg => go_wp2; go_ret; exact ⟨told_no rfl, rfl⟩
      go_wp2
      go_loop [7, 9] (fun vz vi => ∃ (j y : Nat), j ≤ n2 ∧ vi = .int .i64 j ∧ vz = .int .i64 y ∧ Hid (Small xs2 j) ∧ y ≤ 1048576) (fun _ vi => n2 - (intOf vi).toNat)
      case atStart => exact ⟨0, z + n2, Nat.zero_le _, rfl, by go_num, (fun i hi => by omega), e2⟩
      case round =>
        obtain ⟨j, y, hj, rfl, rfl, HY, hy⟩ := hrel
        by_cases hjt : j < n2
        · obtain ⟨b, off, rfl, hb, hc⟩ := HC2.out j hjt
          have hxs := HX2.out _ (getD_mem (xs := xs2) (i := j) (by rw [HL2.out]; exact hjt))
          obtain ⟨x, hx⟩ : ∃ x, x = xs2.getD j ByteArray.empty := ⟨_, rfl⟩
          rw [← hx] at hc hxs
          have HX := hid hx
          clear hx
          by_cases f1 : x.size ≤ 1048576
          case neg => go_wp2; go_ret; exact ⟨told_no rfl, rfl⟩
          by_cases f2 : y + x.size ≤ 1048576
          case neg => go_wp2; go_ret; exact ⟨told_no rfl, rfl⟩
          go_wp2
          go_round
          case rel => exact ⟨j + 1, y + x.size, by omega, by go_num, by go_num, HY.out.succ (HX.out ▸ f1), f2⟩
          case measure => simp [intOf]; omega
        · by_cases f1 : s.size ≤ 1048576
          case neg => go_wp2; go_ret; exact ⟨told_no rfl, rfl⟩
          by_cases f2 : y + s.size ≤ 1048576
          case neg => go_wp2; go_ret; exact ⟨told_no rfl, rfl⟩
          go_wp2
          go_ret
          exact ⟨told_yes rfl ⟨HZ.out.all (by rw [HL1.out]; omega), HY.out.all (by rw [HL2.out]; omega)⟩, rfl⟩

set_option maxHeartbeats 8000000 in
set_option maxRecDepth 100000 in
theorem zz8 (a1 a2 : Option Addr) (n1 c1 n2 c2 P : Nat) (xs1 xs2 : List ByteArray) (w : World) (h1 : StrsAt w P a1 n1 xs1) (h2 : StrsAt w P a2 n2 xs2) :
    Calls Tryd.prog 8 #[.slice a1 n1 c1, .slice a2 n2 c2] w fun e w' => Told e (AllSmall xs1 ∧ AllSmall xs2) ∧ w = w' := by
  obtain ⟨hl1, hn1, hx1, hc1⟩ := h1
  obtain ⟨hl2, hn2, hx2, hc2⟩ := h2
  have HL1 := hid hl1
  have HL2 := hid hl2
  have HX1 := hid hx1
  have HX2 := hid hx2
  have HC1 := hid hc1
  have HC2 := hid hc2
  clear hl1 hl2 hx1 hx2 hc1 hc2
  by_cases d1 : n1 ≤ 1048576
  case neg =>
    go_enter Tryd.func8, Tryd.ntmps8
    go_wp2
    go_ret
    exact ⟨told_no rfl, rfl⟩
  go_enter Tryd.func8, Tryd.ntmps8
  go_wp2
  go_loop [5, 6] (fun vz vi => ∃ (k z : Nat), k ≤ n1 ∧ vi = .int .i64 k ∧ vz = .int .i64 z ∧ Hid (Small xs1 k) ∧ z ≤ 1048576) (fun _ vi => n1 - (intOf vi).toNat)
  case atStart => exact ⟨0, n1, Nat.zero_le _, rfl, by go_num, (fun i hi => by omega), d1⟩
  case round =>
    obtain ⟨k, z, hk, rfl, rfl, HZ, hz⟩ := hrel
    by_cases hlt : k < n1
    · obtain ⟨b, off, rfl, hb, hc⟩ := HC1.out k hlt
      have hxs := HX1.out _ (getD_mem (xs := xs1) (i := k) (by rw [HL1.out]; exact hlt))
      obtain ⟨x, hx⟩ : ∃ x, x = xs1.getD k ByteArray.empty := ⟨_, rfl⟩
      rw [← hx] at hc hxs
      have HX := hid hx
      clear hx
      by_cases e1 : x.size ≤ 1048576
      case neg => go_wp2; go_ret; exact ⟨told_no rfl, rfl⟩
      by_cases e2 : z + x.size ≤ 1048576
      case neg => go_wp2; go_ret; exact ⟨told_no rfl, rfl⟩
      go_wp2
      go_round
      case rel => exact ⟨k + 1, z + x.size, by omega, by go_num, by go_num, HZ.out.succ (HX.out ▸ e1), e2⟩
      case measure => simp [intOf]; omega
    · by_cases e1 : n2 ≤ 1048576
      case neg => go_wp2; go_ret; exact ⟨told_no rfl, rfl⟩
      by_cases e2 : z + n2 ≤ 1048576
      case neg => go_wp2; go_ret; exact ⟨told_no rfl, rfl⟩
      go_wp2
      go_loop [5, 7] (fun vz vi => ∃ (j y : Nat), j ≤ n2 ∧ vi = .int .i64 j ∧ vz = .int .i64 y ∧ Hid (Small xs2 j) ∧ y ≤ 1048576) (fun _ vi => n2 - (intOf vi).toNat)
      case atStart => exact ⟨0, z + n2, Nat.zero_le _, rfl, by go_num, (fun i hi => by omega), e2⟩
      case round =>
        obtain ⟨j, y, hj, rfl, rfl, HY, hy⟩ := hrel
        by_cases hjt : j < n2
        · obtain ⟨b, off, rfl, hb, hc⟩ := HC2.out j hjt
          have hxs := HX2.out _ (getD_mem (xs := xs2) (i := j) (by rw [HL2.out]; exact hjt))
          obtain ⟨x, hx⟩ : ∃ x, x = xs2.getD j ByteArray.empty := ⟨_, rfl⟩
          rw [← hx] at hc hxs
          have HX := hid hx
          clear hx
          by_cases f1 : x.size ≤ 1048576
          case neg => go_wp2; go_ret; exact ⟨told_no rfl, rfl⟩
          by_cases f2 : y + x.size ≤ 1048576
          case neg => go_wp2; go_ret; exact ⟨told_no rfl, rfl⟩
          go_wp2
          go_round
          case rel => exact ⟨j + 1, y + x.size, by omega, by go_num, by go_num, HY.out.succ (HX.out ▸ f1), f2⟩
          case measure => simp [intOf]; omega
        · go_wp2
          go_ret
          exact ⟨told_yes rfl ⟨HZ.out.all (by rw [HL1.out]; omega), HY.out.all (by rw [HL2.out]; omega)⟩, rfl⟩

set_option maxHeartbeats 8000000 in
set_option maxRecDepth 100000 in
theorem zz15 (a1 a2 : Option Addr) (n1 c1 n2 c2 P : Nat) (xs1 xs2 : List ByteArray) (w : World) (h1 : StrsAt w P a1 n1 xs1) (h2 : StrsAt w P a2 n2 xs2) :
    Calls Tryd.prog 15 #[.slice a1 n1 c1, .slice a2 n2 c2] w fun e w' => Told e (AllSmall xs1 ∧ AllSmall xs2) ∧ w = w' := by
  obtain ⟨hl1, hn1, hx1, hc1⟩ := h1
  obtain ⟨hl2, hn2, hx2, hc2⟩ := h2
  have HL1 := hid hl1
  have HL2 := hid hl2
  have HX1 := hid hx1
  have HX2 := hid hx2
  have HC1 := hid hc1
  have HC2 := hid hc2
  clear hl1 hl2 hx1 hx2 hc1 hc2
  by_cases d1 : n1 ≤ 1048576
  case neg =>
    go_enter Tryd.func15, Tryd.ntmps15
    go_wp2
    go_ret
    exact ⟨told_no rfl, rfl⟩
  go_enter Tryd.func15, Tryd.ntmps15
  go_wp2
  go_loop [5, 6] (fun vz vi => ∃ (k z : Nat), k ≤ n1 ∧ vi = .int .i64 k ∧ vz = .int .i64 z ∧ Hid (Small xs1 k) ∧ z ≤ 1048576) (fun _ vi => n1 - (intOf vi).toNat)
  case atStart => exact ⟨0, n1, Nat.zero_le _, rfl, by go_num, (fun i hi => by omega), d1⟩
  case round =>
    obtain ⟨k, z, hk, rfl, rfl, HZ, hz⟩ := hrel
    by_cases hlt : k < n1
    · obtain ⟨b, off, rfl, hb, hc⟩ := HC1.out k hlt
      have hxs := HX1.out _ (getD_mem (xs := xs1) (i := k) (by rw [HL1.out]; exact hlt))
      obtain ⟨x, hx⟩ : ∃ x, x = xs1.getD k ByteArray.empty := ⟨_, rfl⟩
      rw [← hx] at hc hxs
      have HX := hid hx
      clear hx
      by_cases e1 : x.size ≤ 1048576
      case neg => go_wp2; go_ret; exact ⟨told_no rfl, rfl⟩
      by_cases e2 : z + x.size ≤ 1048576
      case neg => go_wp2; go_ret; exact ⟨told_no rfl, rfl⟩
      go_wp2
      go_round
      case rel => exact ⟨k + 1, z + x.size, by omega, by go_num, by go_num, HZ.out.succ (HX.out ▸ e1), e2⟩
      case measure => simp [intOf]; omega
    · by_cases e1 : n2 ≤ 1048576
      case neg => go_wp2; go_ret; exact ⟨told_no rfl, rfl⟩
      by_cases e2 : z + n2 ≤ 1048576
      case neg => go_wp2; go_ret; exact ⟨told_no rfl, rfl⟩
      go_wp2
      go_loop [5, 7] (fun vz vi => ∃ (j y : Nat), j ≤ n2 ∧ vi = .int .i64 j ∧ vz = .int .i64 y ∧ Hid (Small xs2 j) ∧ y ≤ 1048576) (fun _ vi => n2 - (intOf vi).toNat)
      case atStart => exact ⟨0, z + n2, Nat.zero_le _, rfl, by go_num, (fun i hi => by omega), e2⟩
      case round =>
        obtain ⟨j, y, hj, rfl, rfl, HY, hy⟩ := hrel
        by_cases hjt : j < n2
        · obtain ⟨b, off, rfl, hb, hc⟩ := HC2.out j hjt
          have hxs := HX2.out _ (getD_mem (xs := xs2) (i := j) (by rw [HL2.out]; exact hjt))
          obtain ⟨x, hx⟩ : ∃ x, x = xs2.getD j ByteArray.empty := ⟨_, rfl⟩
          rw [← hx] at hc hxs
          have HX := hid hx
          clear hx
          by_cases f1 : x.size ≤ 1048576
          case neg => go_wp2; go_ret; exact ⟨told_no rfl, rfl⟩
          by_cases f2 : y + x.size ≤ 1048576
          case neg => go_wp2; go_ret; exact ⟨told_no rfl, rfl⟩
          go_wp2
          go_round
          case rel => exact ⟨j + 1, y + x.size, by omega, by go_num, by go_num, HY.out.succ (HX.out ▸ f1), f2⟩
          case measure => simp [intOf]; omega
        · go_wp2
          go_ret
          exact ⟨told_yes rfl ⟨HZ.out.all (by rw [HL1.out]; omega), HY.out.all (by rw [HL2.out]; omega)⟩, rfl⟩

set_option maxHeartbeats 8000000 in
set_option maxRecDepth 100000 in
theorem tooBig (a1 a2 : Option Addr) (n1 c1 n2 c2 P : Nat) (xs1 xs2 : List ByteArray) (q : Nat) (w : World) (h1 : StrsAt w P a1 n1 xs1) (h2 : StrsAt w P a2 n2 xs2) (m1 : AllSmall xs1) (m2 : AllSmall xs2) (hq : q ≤ 1048576) :
    Calls Tryd.prog 9 #[.slice a1 n1 c1, .slice a2 n2 c2, .int .i64 q] w fun e w' => Told e True ∧ w = w' := by
  obtain ⟨hl1, hn1, hx1, hc1⟩ := h1
  obtain ⟨hl2, hn2, hx2, hc2⟩ := h2
  have HL1 := hid hl1
  have HL2 := hid hl2
  have HX1 := hid m1
  have HX2 := hid m2
  have HC1 := hid hc1
  have HC2 := hid hc2
  clear hl1 hl2 hx1 hx2 hc1 hc2 m1 m2
  go_enter Tryd.func9, Tryd.ntmps9
  go_wp2
  go_loop [7, 8] (fun vz vi => ∃ (k z : Nat), k ≤ n1 ∧ vi = .int .i64 k ∧ vz = .int .i64 z ∧ z ≤ 1048576) (fun _ vi => n1 - (intOf vi).toNat)
  case atStart => exact ⟨0, q, Nat.zero_le _, rfl, by go_num, hq⟩
  case round =>
    obtain ⟨k, z, hk, rfl, rfl, hz⟩ := hrel
    by_cases hlt : k < n1
    · obtain ⟨b, off, rfl, hb, hc⟩ := HC1.out k hlt
      have hxs := HX1.out _ (getD_mem (xs := xs1) (i := k) (by rw [HL1.out]; exact hlt))
      obtain ⟨x, hx⟩ : ∃ x, x = xs1.getD k ByteArray.empty := ⟨_, rfl⟩
      rw [← hx] at hc hxs
      clear hx
      by_cases e2 : z + (16 + x.size) ≤ 1048576
      case neg => go_wp2; go_ret; exact ⟨told_yes rfl trivial, rfl⟩
      go_wp2
      go_round
      case rel => exact ⟨k + 1, z + (16 + x.size), by omega, by go_num, by go_num, e2⟩
      case measure => simp [intOf]; omega
    · go_wp2
      go_loop [7, 9] (fun vz vi => ∃ (j y : Nat), j ≤ n2 ∧ vi = .int .i64 j ∧ vz = .int .i64 y ∧ y ≤ 1048576) (fun _ vi => n2 - (intOf vi).toNat)
      case atStart => exact ⟨0, z, Nat.zero_le _, rfl, by go_num, hz⟩
      case round =>
        obtain ⟨j, y, hj, rfl, rfl, hy⟩ := hrel
        by_cases hjt : j < n2
        · obtain ⟨b, off, rfl, hb, hc⟩ := HC2.out j hjt
          have hxs := HX2.out _ (getD_mem (xs := xs2) (i := j) (by rw [HL2.out]; exact hjt))
          obtain ⟨x, hx⟩ : ∃ x, x = xs2.getD j ByteArray.empty := ⟨_, rfl⟩
          rw [← hx] at hc hxs
          clear hx
          by_cases f2 : y + (16 + x.size) ≤ 1048576
          case neg => go_wp2; go_ret; exact ⟨told_yes rfl trivial, rfl⟩
          go_wp2
          go_round
          case rel => exact ⟨j + 1, y + (16 + x.size), by omega, by go_num, by go_num, f2⟩
          case measure => simp [intOf]; omega
        · go_wp2
          go_ret
          exact ⟨told_no rfl, rfl⟩

end Go.Proofs.Qxb6618755aDoor
