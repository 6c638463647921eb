/-
  Plain lists: where each label lies in the text (no Go in sight).
-/
import Derived.Test.Qxb6602881aDoorParts
namespace Go.Proofs.Qxb6602881aDoor
open Go.Lib

/-- Where the text stands behind the first j labels. -/
def posOf (v : List UInt8) (j : Nat) : Nat := (flat 44 ((parts 44 v).take j)).length - 1
theorem posOf_zero (v : List UInt8) : posOf v 0 = 0 := rfl
theorem posOf_end (v : List UInt8) : posOf v (parts 44 v).length = v.length := by
  unfold posOf
  rw [List.take_length, flat_parts]
  simp
theorem label_at (v : List UInt8) (j : Nat) (x : List UInt8) (h : (parts 44 v)[j]? = some x) :
    flat 44 ((parts 44 v).take j) ++ 44 :: (x ++ flat 44 ((parts 44 v).drop (j + 1))) = 44 :: v ∧ posOf v (j + 1) = (flat 44 ((parts 44 v).take j)).length + x.length := by
  obtain ⟨hj, hx⟩ := List.getElem?_eq_some_iff.1 h
  have hd : (parts 44 v).drop j = x :: (parts 44 v).drop (j + 1) := by rw [← hx]; exact List.drop_eq_getElem_cons hj
  have ht : (parts 44 v).take (j + 1) = (parts 44 v).take j ++ [x] := by rw [← hx]; exact List.take_succ_eq_append_getElem hj
  constructor
  · have e : flat 44 ((parts 44 v).take j ++ (parts 44 v).drop j) = 44 :: v := by rw [List.take_append_drop, flat_parts]
    rw [flat_append, hd, flat] at e
    exact e
  · unfold posOf
    rw [ht, flat_append, flat_one]
    simp
/-- The first label. -/
theorem label_first (v x : List UInt8) (h : (parts 44 v)[0]? = some x) : ∃ rest, v = x ++ rest ∧ posOf v 1 = x.length := by
  obtain ⟨h1, h2⟩ := label_at v 0 x h
  simp only [List.take_zero, flat, List.nil_append, List.cons.injEq, true_and, List.length_nil, Nat.zero_add] at h1 h2
  exact ⟨_, h1.symm, h2⟩
/-- A later one. -/
theorem label_next (v : List UInt8) (j : Nat) (x : List UInt8) (hj : 0 < j) (h : (parts 44 v)[j]? = some x) :
    ∃ u rest, v = u ++ 44 :: (x ++ rest) ∧ u.length = posOf v j ∧ posOf v (j + 1) = posOf v j + 1 + x.length := by
  obtain ⟨h1, h2⟩ := label_at v j x h
  cases e : (parts 44 v).take j with
  | nil =>
    exfalso
    have := congrArg List.length e
    rw [List.length_take, List.length_nil] at this
    obtain ⟨hl, _⟩ := List.getElem?_eq_some_iff.1 h
    omega
  | cons y t =>
    have hp : posOf v j = (y ++ flat 44 t).length := by unfold posOf; rw [e, flat]; simp
    rw [e, flat] at h1 h2
    simp only [List.cons_append, List.cons.injEq, true_and] at h1
    refine ⟨y ++ flat 44 t, _, h1.symm, hp.symm, ?_⟩
    rw [h2, hp]
    simp
theorem posOf_le (v : List UInt8) (j : Nat) : posOf v j ≤ v.length := by
  have h : (flat 44 ((parts 44 v).take j ++ (parts 44 v).drop j)).length = v.length + 1 := by rw [List.take_append_drop, flat_parts]; rfl
  rw [flat_append, List.length_append] at h
  unfold posOf
  omega
end Go.Proofs.Qxb6602881aDoor
