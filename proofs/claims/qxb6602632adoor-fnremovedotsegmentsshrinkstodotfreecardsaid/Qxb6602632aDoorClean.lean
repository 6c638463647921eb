/-
  Plain lists: what is kept bears no dot segment; where there is none, all is kept (no Go in sight).
-/
import Derived.Test.Qxb6602632aDoorPlain
namespace Go.Proofs.Qxb6602632aDoor
open Go.Lib

/-- A dot segment. -/
def isDot (x : List UInt8) : Bool := x == [46] || x == [46, 46]
/-- Is there one among them? -/
def anyDot (l : List (List UInt8)) : Bool := l.any isDot
theorem isDot_eq {x : List UInt8} (h : isDot x = false) : x ≠ [46] ∧ x ≠ [46, 46] := by
  unfold isDot at h
  rw [Bool.or_eq_false_iff] at h
  exact ⟨by simpa using h.1, by simpa using h.2⟩
theorem isDot_ne {x : List UInt8} (h1 : x ≠ [46]) (h2 : x ≠ [46, 46]) : isDot x = false := by
  unfold isDot
  rw [Bool.or_eq_false_iff]
  exact ⟨by simpa using h1, by simpa using h2⟩
theorem anyDot_cons (x : List UInt8) (l : List (List UInt8)) : anyDot (x :: l) = (isDot x || anyDot l) := rfl
theorem anyDot_append (a b : List (List UInt8)) : anyDot (a ++ b) = (anyDot a || anyDot b) := by simp [anyDot]
theorem anyDot_dropLast {l : List (List UInt8)} (h : anyDot l = false) : anyDot l.dropLast = false := by
  unfold anyDot at *
  rw [List.any_eq_false] at *
  intro x hx
  exact h x ((List.dropLast_sublist l).subset hx)

theorem keepStep_clean (last : Bool) (kept : List (List UInt8)) (seg : List UInt8) (h : anyDot kept = false) : anyDot (keepStep last kept seg) = false := by
  have hd := anyDot_dropLast h
  have hn : anyDot [[]] = false := rfl
  unfold keepStep
  split
  · split
    · rw [anyDot_append, h, hn]; rfl
    · exact h
  · split
    · split
      · rw [anyDot_append, hd, hn]; rfl
      · exact hd
    · rename_i h1 h2
      rw [anyDot_append, h, anyDot_cons, isDot_ne h1 h2]; rfl
theorem rmL_clean : ∀ (segs kept : List (List UInt8)), anyDot kept = false → anyDot (rmL segs kept) = false
  | [], _, h => h
  | seg :: more, kept, h => rmL_clean more _ (keepStep_clean _ kept seg h)
theorem rmL_free : ∀ (segs kept : List (List UInt8)), (∀ x ∈ segs, (47 : UInt8) ∉ x) → (∀ x ∈ kept, (47 : UInt8) ∉ x) → ∀ x ∈ rmL segs kept, (47 : UInt8) ∉ x
  | [], _, _, h => h
  | seg :: more, kept, hs, h => rmL_free more _ (fun x hx => hs x (by simp [hx])) (keepStep_free _ kept seg h (hs seg (by simp)))
theorem rmL_same : ∀ (segs kept : List (List UInt8)), anyDot segs = false → rmL segs kept = kept ++ segs
  | [], kept, _ => by simp [rmL]
  | seg :: more, kept, h => by
    rw [anyDot_cons, Bool.or_eq_false_iff] at h
    obtain ⟨h1, h2⟩ := isDot_eq h.1
    rw [rmL, keepStep, if_neg h1, if_neg h2, rmL_same more _ h.2]
    simp

/-- The segments of what is laid out, a '/' ahead of each, are those. -/
theorem parts_seg : ∀ (x r : List UInt8), (47 : UInt8) ∉ x → parts 47 (x ++ 47 :: r) = x :: parts 47 r
  | [], r, _ => parts_hit 47 r
  | c :: x, r, h => by
    rw [List.mem_cons, not_or] at h
    obtain ⟨h', t, e1, e2⟩ := parts_other 47 c (x ++ 47 :: r) (Ne.symm h.1)
    rw [List.cons_append, e2]
    rw [parts_seg x r h.2] at e1
    simp only [List.cons.injEq] at e1
    rw [← e1.1, ← e1.2]
theorem parts_last : ∀ (x : List UInt8), (47 : UInt8) ∉ x → parts 47 x = [x]
  | [], _ => rfl
  | c :: x, h => by
    rw [List.mem_cons, not_or] at h
    obtain ⟨h', t, e1, e2⟩ := parts_other 47 c x (Ne.symm h.1)
    rw [parts_last x h.2] at e1
    simp only [List.cons.injEq] at e1
    rw [e2, ← e1.1, ← e1.2]
theorem parts_flat : ∀ (K : List (List UInt8)) (y : List UInt8), (∀ x ∈ K, (47 : UInt8) ∉ x) → flat 47 K = 47 :: y → parts 47 y = K
  | [], y, _, h => by simp [flat] at h
  | [x], y, hf, h => by
    simp [flat] at h
    rw [← h]
    exact parts_last x (hf x (by simp))
  | x :: x2 :: K, y, hf, h => by
    rw [flat] at h
    simp only [List.cons.injEq, true_and] at h
    have e : flat 47 (x2 :: K) = 47 :: (x2 ++ flat 47 K) := rfl
    rw [← h, e, parts_seg x _ (hf x (by simp)), parts_flat (x2 :: K) _ (fun z hz => hf z (by simp [hz])) e]

theorem keptOf_ne (s : List UInt8) : keptOf s ≠ [] := rmL_ne _ _ (parts_ne 47 s)
theorem flat_head {K : List (List UInt8)} (h : K ≠ []) : ∃ y, flat 47 K = 47 :: y := by
  cases K with
  | nil => exact absurd rfl h
  | cons x K => exact ⟨_, rfl⟩
/-- The result has no dot segment. -/
theorem kept_clean (s y : List UInt8) (h : flat 47 (keptOf s) = 47 :: y) : anyDot (parts 47 y) = false := by
  rw [parts_flat (keptOf s) y (rmL_free _ _ (parts_free 47 s) (by simp)) h]
  exact rmL_clean _ _ rfl
/-- The result is the path exactly when the path had none. -/
theorem kept_same (s : List UInt8) : (flat 47 (keptOf s) == 47 :: s) = !anyDot (parts 47 s) := by
  cases e : anyDot (parts 47 s) with
  | false =>
    rw [Bool.not_false, beq_iff_eq]
    unfold keptOf
    rw [rmL_same _ _ e, List.nil_append, flat_parts]
  | true =>
    rw [Bool.not_true, beq_eq_false_iff_ne]
    intro h
    rw [kept_clean s s h] at e
    cases e
end Go.Proofs.Qxb6602632aDoor
