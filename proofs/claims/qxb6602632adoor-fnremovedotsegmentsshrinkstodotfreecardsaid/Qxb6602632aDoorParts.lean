/-
  Plain lists: a text cut at every d (no Go in sight).
-/
import Derived.Lib.Split
import Derived.Lib.SplitLaws
import Derived.Lib.Join
namespace Go.Proofs.Qxb6602632aDoor
open Go.Lib

/-- s cut at every d. -/
def parts (d : UInt8) : List UInt8 → List (List UInt8)
  | [] => [[]]
  | c :: r => if c = d then [] :: parts d r else
      match parts d r with
      | h :: t => (c :: h) :: t
      | [] => [[c]]
theorem parts_nil (d : UInt8) : parts d [] = [[]] := rfl
theorem parts_hit (d : UInt8) (r : List UInt8) : parts d (d :: r) = [] :: parts d r := by rw [parts, if_pos rfl]
theorem parts_ne (d : UInt8) (s : List UInt8) : parts d s ≠ [] := by
  cases s with
  | nil => simp [parts]
  | cons c r =>
    rw [parts]
    split
    · simp
    · split <;> simp
theorem parts_other (d c : UInt8) (r : List UInt8) (hc : c ≠ d) : ∃ h t, parts d r = h :: t ∧ parts d (c :: r) = (c :: h) :: t := by
  cases e : parts d r with
  | nil => exact absurd e (parts_ne d r)
  | cons h t => exact ⟨h, t, rfl, by rw [parts, if_neg hc, e]⟩

/-- d ahead of each. -/
def flat (d : UInt8) : List (List UInt8) → List UInt8
  | [] => []
  | s :: r => d :: (s ++ flat d r)
theorem flat_append (d : UInt8) (a b : List (List UInt8)) : flat d (a ++ b) = flat d a ++ flat d b := by
  induction a with
  | nil => rfl
  | cons x a ih => rw [List.cons_append, flat, flat, ih]; simp
theorem flat_one (d : UInt8) (s : List UInt8) : flat d [s] = d :: s := by simp [flat]

theorem flat_parts (d : UInt8) (s : List UInt8) : flat d (parts d s) = d :: s := by
  induction s with
  | nil => simp [parts, flat]
  | cons c r ih =>
    by_cases hc : c = d
    · subst hc
      rw [parts_hit, flat, ih]; rfl
    · obtain ⟨h, t, e1, e2⟩ := parts_other d c r hc
      rw [e1, flat] at ih
      rw [e2, flat, List.cons_append]
      simp only [List.cons.injEq, true_and] at ih
      rw [ih]
theorem parts_free (d : UInt8) (s : List UInt8) : ∀ x ∈ parts d s, d ∉ x := by
  induction s with
  | nil => intro x hx; simp [parts] at hx; subst hx; simp
  | cons c r ih =>
    intro x hx
    by_cases hc : c = d
    · subst hc
      rw [parts_hit, List.mem_cons] at hx
      rcases hx with rfl | hx
      · simp
      · exact ih x hx
    · obtain ⟨h, t, e1, e2⟩ := parts_other d c r hc
      rw [e2, List.mem_cons] at hx
      rw [e1] at ih
      rcases hx with rfl | hx
      · rw [List.mem_cons, not_or]
        exact ⟨Ne.symm hc, ih h (by simp)⟩
      · exact ih x (by simp [hx])
theorem parts_count (d : UInt8) (s : List UInt8) : (parts d s).length = s.count d + 1 := by
  induction s with
  | nil => rfl
  | cons c r ih =>
    by_cases hc : c = d
    · subst hc
      rw [parts_hit, List.length_cons, ih, List.count_cons_self]
    · obtain ⟨h, t, e1, e2⟩ := parts_other d c r hc
      rw [e1] at ih
      rw [e2, List.length_cons, List.count_cons_of_ne hc]
      simpa using ih

theorem index_d (d : UInt8) (l : List UInt8) : index (d :: l) [d] = 0 := by simp [index]
theorem index_not_d (d c : UInt8) (l : List UInt8) (h : c ≠ d) : index (c :: l) [d] = if index l [d] == -1 then -1 else index l [d] + 1 := by
  have : ([d] : List UInt8).isPrefixOf (c :: l) = false := by simp [List.isPrefixOf, beq_eq_false_iff_ne, Ne.symm h]
  rw [index, this]; rfl

theorem splitK_d (d : UInt8) (k : Nat) (l : List UInt8) : splitK [d] 0 (k + 1) (d :: l) = [] :: splitK [d] 0 k l := by
  rw [splitK, index_d]; simp
theorem splitK_not_d (d c : UInt8) (k : Nat) (l : List UInt8) (hc : c ≠ d) : ∃ h t, splitK [d] 0 k l = h :: t ∧ splitK [d] 0 k (c :: l) = (c :: h) :: t := by
  cases k with
  | zero => exact ⟨l, [], rfl, rfl⟩
  | succ k =>
    rw [splitK, splitK, index_not_d d c l hc]
    by_cases e : index l [d] = -1
    · rw [e]; exact ⟨l, [], rfl, rfl⟩
    · have e1 : (index l [d] == -1) = false := beq_eq_false_iff_ne.2 e
      have e2 := index_ge l [d]
      have e3 : (index l [d] + 1 == -1) = false := beq_eq_false_iff_ne.2 (by omega)
      rw [e1]
      simp only [Bool.false_eq_true, if_false, e3]
      have e4 : (index l [d] + 1).toNat = (index l [d]).toNat + 1 := by omega
      refine ⟨_, _, rfl, ?_⟩
      rw [e4, show (index l [d]).toNat + 1 + [d].length = ((index l [d]).toNat + [d].length) + 1 from by omega]
      simp

theorem splitK_parts (d : UInt8) (s : List UInt8) : splitK [d] 0 (count s [d]) s = parts d s := by
  induction s with
  | nil => rw [count_one]; rfl
  | cons c r ih =>
    by_cases hc : c = d
    · subst hc
      rw [count_cons_eq, Nat.add_comm, splitK_d, ih, parts_hit]
    · rw [count_cons_ne _ _ _ hc]
      obtain ⟨h, t, e1, e2⟩ := splitK_not_d d c (count r [d]) r hc
      obtain ⟨h', t', e3, e4⟩ := parts_other d c r hc
      rw [e2, e4]
      rw [ih, e3] at e1
      simp only [List.cons.injEq] at e1
      rw [e1.1, e1.2]
theorem split_parts (d : UInt8) (s : List UInt8) : split s [d] = parts d s := splitK_parts d s
end Go.Proofs.Qxb6602632aDoor
