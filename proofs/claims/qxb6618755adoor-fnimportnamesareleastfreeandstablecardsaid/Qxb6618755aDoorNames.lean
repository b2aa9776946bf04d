/-
  Seat b6618755aD: the plain law: the least free name. No Go in it.
-/
import Derived.Test.Qxb6618755aDoorSets
import Derived.Lib.ItoaNum
import Derived.Lib.ItoaLen
import Derived.Lib.PathFns
namespace Go.Proofs.Qxb6618755aDoor
open Go.RowKit
set_option linter.unusedVariables false

def num (j : Nat) : ByteArray := ⟨(Lib.decDigits j).toArray⟩

/-- base, base1, base2, .. -/
def nm (base : ByteArray) (j : Nat) : ByteArray := if j = 0 then base else base ++ num j

theorem nm_zero (base : ByteArray) : nm base 0 = base := if_pos rfl
theorem nm_pos (base : ByteArray) {j : Nat} (h : j ≠ 0) : nm base j = base ++ num j := if_neg h

/-! ### decimals -/

/-- What a row of digits says. -/
def val (l : List UInt8) : Nat := l.foldl (fun k c => k * 10 + (c.toNat - 48)) 0

theorem val_snoc (l : List UInt8) (c : UInt8) : val (l ++ [c]) = val l * 10 + (c.toNat - 48) := by simp [val, List.foldl_append]

theorem digit_nat {d : Nat} (h : d < 10) : (UInt8.ofNat (48 + d)).toNat = 48 + d := by
  simp [UInt8.toNat_ofNat']
  omega

theorem dec_step (u : Nat) : Lib.decDigits u = (if u < 10 then [] else Lib.decDigits (u / 10)) ++ [UInt8.ofNat (48 + u % 10)] := by
  conv => lhs; rw [Lib.decDigits]
  split
  · rename_i h
    rw [Nat.mod_eq_of_lt h]; rfl
  · rfl

theorem val_dec (u : Nat) : val (Lib.decDigits u) = u := by
  induction u using Nat.strongRecOn with
  | _ u ih =>
    rw [dec_step, val_snoc, digit_nat (Nat.mod_lt _ (by omega))]
    split
    · simp [val]; omega
    · rw [ih (u / 10) (by omega)]; omega

theorem dec_pos (u : Nat) : 0 < (Lib.decDigits u).length := by
  rw [dec_step]; simp

theorem dec_len : ∀ (n u : Nat), u < 10 ^ (n + 1) → (Lib.decDigits u).length ≤ n + 1
  | 0, u, h => by
    rw [dec_step, if_pos (by omega)]; simp
  | n + 1, u, h => by
    rw [dec_step]
    split
    · simp
    · have := dec_len n (u / 10) (by rw [Nat.pow_succ] at h; omega)
      simp; omega

theorem dec_digit (u : Nat) : ∀ c ∈ Lib.decDigits u, 48 ≤ c.toNat ∧ c.toNat ≤ 57 := by
  induction u using Nat.strongRecOn with
  | _ u ih =>
    rw [dec_step]
    intro c hc
    rw [List.mem_append] at hc
    rcases hc with hc | hc
    · split at hc
      · simp at hc
      · exact ih (u / 10) (by omega) c hc
    · simp only [List.mem_singleton] at hc
      subst hc
      rw [digit_nat (Nat.mod_lt _ (by omega))]
      have := Nat.mod_lt u (show 0 < 10 by omega)
      omega

theorem dec_head (u : Nat) (hu : 0 < u) : ∃ c l, Lib.decDigits u = c :: l ∧ c.toNat ≠ 48 := by
  induction u using Nat.strongRecOn with
  | _ u ih =>
    rw [dec_step]
    split
    · refine ⟨_, [], rfl, ?_⟩
      rw [digit_nat (Nat.mod_lt _ (by omega)), Nat.mod_eq_of_lt (by omega)]; omega
    · obtain ⟨c, l, h, h'⟩ := ih (u / 10) (by omega) (by omega)
      exact ⟨c, l ++ [_], by rw [h]; rfl, h'⟩

theorem num_inj {i j : Nat} (h : num i = num j) : i = j := by
  have h1 : Lib.decDigits i = Lib.decDigits j := by
    have := congrArg (fun b : ByteArray => b.data.toList) h
    simpa [num] using this
  rw [← val_dec i, h1, val_dec]

theorem num_size (j : Nat) : (num j).size = (Lib.decDigits j).length := by simp [num, ByteArray.size]

theorem bytes_toList_append (a b : ByteArray) : (a ++ b).data.toList = a.data.toList ++ b.data.toList := by simp

theorem append_inj {a b c : ByteArray} (h : a ++ b = a ++ c) : b = c := by
  have h1 := congrArg (fun b : ByteArray => b.data.toList) h
  simp only [bytes_toList_append] at h1
  exact bytes_eq (List.append_cancel_left h1)

theorem nm_inj (base : ByteArray) {i j : Nat} (h : nm base i = nm base j) : i = j := by
  have hs := congrArg ByteArray.size h
  have p1 := dec_pos i
  have p2 := dec_pos j
  by_cases hi : i = 0
  · by_cases hj : j = 0
    · omega
    · subst hi
      rw [nm_zero, nm_pos base hj, ByteArray.size_append, num_size] at hs
      omega
  · by_cases hj : j = 0
    · subst hj
      rw [nm_zero, nm_pos base hi, ByteArray.size_append, num_size] at hs
      omega
    · rw [nm_pos base hi, nm_pos base hj] at h
      exact num_inj (append_inj h)

theorem nm_size (base : ByteArray) (j : Nat) (hj : j < 1000000000) : (nm base j).size ≤ base.size + 9 := by
  unfold nm
  split
  · omega
  · rw [ByteArray.size_append, num_size]
    have := dec_len 8 j (by omega)
    omega

/-! ### pigeonhole -/

theorem length_le_of_sub : ∀ (l T : List ByteArray), l.Nodup → (∀ x ∈ l, x ∈ T) → l.length ≤ T.length
  | [], T, _, _ => by simp
  | x :: l, T, hd, hs => by
    rw [List.nodup_cons] at hd
    have hx : x ∈ T := hs x (by simp)
    have := length_le_of_sub l (T.erase x) hd.2 (fun y hy => (List.mem_erase_of_ne (by rintro rfl; exact hd.1 hy)).2 (hs y (by simp [hy])))
    rw [List.length_erase_of_mem hx] at this
    have : 0 < T.length := List.length_pos_of_mem hx
    simp
    omega

theorem range_nodup : ∀ k, (List.range k).Nodup := fun k => List.nodup_range

theorem names_le (base : ByteArray) (T : List ByteArray) (k : Nat) (h : ∀ j, j < k → nm base j ∈ T) : k ≤ T.length := by
  have := length_le_of_sub ((List.range k).map (nm base)) T (by
    rw [List.nodup_iff_pairwise_ne, List.pairwise_map]
    exact (List.nodup_iff_pairwise_ne.1 (range_nodup k)).imp (fun h e => h (nm_inj base e))) (fun x hx => by
    obtain ⟨j, hj, rfl⟩ := List.mem_map.1 hx
    exact h j (List.mem_range.1 hj))
  simpa using this

/-- k is the least number whose name is free. -/
def Least (base : ByteArray) (T : List ByteArray) (k : Nat) : Prop := nm base k ∉ T ∧ ∀ j, j < k → nm base j ∈ T

theorem Least.le {base : ByteArray} {T : List ByteArray} {k : Nat} (h : Least base T k) : k ≤ T.length := names_le base T k h.2

theorem Least.unique {base : ByteArray} {T : List ByteArray} {k k' : Nat} (h : Least base T k) (h' : Least base T k') : k = k' := by
  rcases Nat.lt_trichotomy k k' with hl | hl | hl
  · exact absurd (h'.2 k hl) h.1
  · exact hl
  · exact absurd (h.2 k' hl) h'.1

theorem least_ex (base : ByteArray) (T : List ByteArray) : ∃ k, Least base T k := by
  have step : ∀ n, (∃ k, Least base T k) ∨ ∀ j, j < n → nm base j ∈ T := by
    intro n
    induction n with
    | zero => exact .inr fun j hj => by omega
    | succ n ih =>
      rcases ih with h | h
      · exact .inl h
      · by_cases hn : nm base n ∈ T
        · exact .inr fun j hj => by
            by_cases e : j = n
            · exact e ▸ hn
            · exact h j (by omega)
        · exact .inl ⟨n, hn, h⟩
  rcases step (T.length + 1) with h | h
  · exact h
  · have := names_le base T _ h
    omega

noncomputable def leastK (base : ByteArray) (T : List ByteArray) : Nat := Classical.choose (least_ex base T)
theorem leastK_spec (base : ByteArray) (T : List ByteArray) : Least base T (leastK base T) := Classical.choose_spec (least_ex base T)

/-- The name that Local answers. -/
noncomputable def loc (base : ByteArray) (T : List ByteArray) : ByteArray := nm base (leastK base T)

theorem Least.is {base : ByteArray} {T : List ByteArray} {k : Nat} (h : Least base T k) : nm base k = loc base T := by
  unfold loc
  rw [h.unique (leastK_spec base T)]
theorem loc_free (base : ByteArray) (T : List ByteArray) : loc base T ∉ T := (leastK_spec base T).1
theorem loc_self {base : ByteArray} {T : List ByteArray} (h : base ∉ T) : loc base T = base := by
  rw [← Least.is (k := 0) ⟨by rwa [nm_zero], fun j hj => by omega⟩, nm_zero]
theorem loc_eq_iff (base : ByteArray) (T : List ByteArray) : loc base T = base ↔ base ∉ T :=
  ⟨fun h => h ▸ loc_free base T, loc_self⟩
theorem loc_size (base : ByteArray) (T : List ByteArray) (hT : T.length < 1000000000) : (loc base T).size ≤ base.size + 9 :=
  nm_size base _ (Nat.lt_of_le_of_lt (leastK_spec base T).le hT)
theorem loc_loc (base : ByteArray) (T : List ByteArray) : loc (loc base T) T = loc base T := loc_self (loc_free base T)

/-! ### imports -/

def names (I : List (ByteArray × ByteArray)) : List ByteArray := I.map Prod.snd
def paths (I : List (ByteArray × ByteArray)) : List ByteArray := I.map Prod.fst

/-- path.Base. -/
def pb (p : ByteArray) : ByteArray := ⟨(Lib.Pa.base p.data.toList).toArray⟩

noncomputable def impName (S : List ByteArray) (I : List (ByteArray × ByteArray)) (p : ByteArray) : ByteArray := (find I p).getD (loc (pb p) (S ++ names I))
noncomputable def imp (S : List ByteArray) (I : List (ByteArray × ByteArray)) (p : ByteArray) : List (ByteArray × ByteArray) :=
  match find I p with
  | some _ => I
  | none => I ++ [(p, loc (pb p) (S ++ names I))]

theorem names_snoc (I : List (ByteArray × ByteArray)) (p n : ByteArray) : names (I ++ [(p, n)]) = names I ++ [n] := by simp [names]
theorem paths_snoc (I : List (ByteArray × ByteArray)) (p n : ByteArray) : paths (I ++ [(p, n)]) = paths I ++ [p] := by simp [paths]
theorem imp_old {S : List ByteArray} {I : List (ByteArray × ByteArray)} {p n : ByteArray} (h : find I p = some n) : imp S I p = I ∧ impName S I p = n := by
  unfold imp impName
  rw [h]; exact ⟨rfl, rfl⟩
theorem imp_new {S : List ByteArray} {I : List (ByteArray × ByteArray)} {p : ByteArray} (h : find I p = none) : imp S I p = I ++ [(p, loc (pb p) (S ++ names I))] ∧ impName S I p = loc (pb p) (S ++ names I) := by
  unfold imp impName
  rw [h]; exact ⟨rfl, rfl⟩
theorem find_imp (S : List ByteArray) (I : List (ByteArray × ByteArray)) (p : ByteArray) : find (imp S I p) p = some (impName S I p) := by
  cases h : find I p with
  | none => rw [(imp_new h).1, (imp_new h).2, find_snoc I p _ p h, if_pos rfl]
  | some n => rw [(imp_old h).1, (imp_old h).2, h]
theorem imp_len (S : List ByteArray) (I : List (ByteArray × ByteArray)) (p : ByteArray) : (imp S I p).length ≤ I.length + 1 := by
  cases h : find I p with
  | none => rw [(imp_new h).1]; simp
  | some n => rw [(imp_old h).1]; omega
theorem find_none {I : List (ByteArray × ByteArray)} {p : ByteArray} : find I p = none ↔ p ∉ paths I := by
  induction I with
  | nil => simp [find, paths]
  | cons x I ih =>
    obtain ⟨a, c⟩ := x
    rw [find]
    by_cases h : p = a
    · simp [h, paths]
    · rw [if_neg h, ih]
      simp [paths, h]
theorem find_mem {I : List (ByteArray × ByteArray)} {p n : ByteArray} (h : find I p = some n) : n ∈ names I := by
  induction I with
  | nil => simp [find] at h
  | cons x I ih =>
    obtain ⟨a, c⟩ := x
    rw [find] at h
    by_cases e : p = a
    · rw [if_pos e] at h
      cases h
      simp [names]
    · rw [if_neg e] at h
      have := ih h
      simp [names] at this ⊢
      exact .inr this
theorem impName_mem (S : List ByteArray) (I : List (ByteArray × ByteArray)) (p : ByteArray) : impName S I p ∈ names (imp S I p) := find_mem (find_imp S I p)

end Go.Proofs.Qxb6618755aDoor
