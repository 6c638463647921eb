/-
  Plain lists: dot segments removed (no Go in sight).
-/
import Derived.Test.Qxb6602632aDoorParts
namespace Go.Proofs.Qxb6602632aDoor
open Go.Lib

/-- What is kept, one segment further. -/
def keepStep (last : Bool) (kept : List (List UInt8)) (seg : List UInt8) : List (List UInt8) :=
  if seg = [46] then (if last then kept ++ [[]] else kept)
  else if seg = [46, 46] then (if last then kept.dropLast ++ [[]] else kept.dropLast)
  else kept ++ [seg]
/-- .. over all of them. -/
def rmL : List (List UInt8) → List (List UInt8) → List (List UInt8)
  | [], kept => kept
  | seg :: more, kept => rmL more (keepStep more.isEmpty kept seg)
/-- What is kept of a path's segments. -/
def keptOf (s : List UInt8) : List (List UInt8) := rmL (parts 47 s) []
/-- A path with its dot segments removed. -/
def rmDots (p : List UInt8) : List UInt8 :=
  match p with
  | c :: s => if c = 47 then flat 47 (keptOf s) else p
  | [] => []

theorem rmL_ne : ∀ (segs kept : List (List UInt8)), segs ≠ [] → rmL segs kept ≠ []
  | [], _, h => absurd rfl h
  | [seg], kept, _ => by
    show keepStep true kept seg ≠ []
    unfold keepStep
    split
    · simp
    · split <;> simp
  | seg :: s2 :: more, kept, _ => rmL_ne (s2 :: more) _ (by simp)

/-- '/' and the kept ones joined by '/' are the kept ones, a '/' ahead of each. -/
theorem join_flat : ∀ (ks : List (List UInt8)), ks ≠ [] → 47 :: join ks [47] = flat 47 ks
  | [], h => absurd rfl h
  | [x], _ => by simp [join, flat, List.intercalate]
  | x :: y :: l, _ => by
    have e : join (x :: y :: l) [47] = x ++ 47 :: join (y :: l) [47] := by simp [join, List.intercalate]
    rw [e, join_flat (y :: l) (by simp)]
    rfl

theorem keepStep_free (last : Bool) (kept : List (List UInt8)) (seg : List UInt8) (hk : ∀ x ∈ kept, (47 : UInt8) ∉ x) (hs : (47 : UInt8) ∉ seg) : ∀ x ∈ keepStep last kept seg, (47 : UInt8) ∉ x := by
  have hd : ∀ x ∈ kept.dropLast, (47 : UInt8) ∉ x := fun x hx => hk x ((List.dropLast_sublist kept).subset hx)
  have happ : ∀ (l : List (List UInt8)) (y : List UInt8), (∀ x ∈ l, (47 : UInt8) ∉ x) → (47 : UInt8) ∉ y → ∀ x ∈ l ++ [y], (47 : UInt8) ∉ x := by
    intro l y hl hy x hx
    rw [List.mem_append, List.mem_singleton] at hx
    rcases hx with hx | rfl
    · exact hl x hx
    · exact hy
  unfold keepStep
  split
  · split
    · exact happ _ _ hk (by simp)
    · exact hk
  · split
    · split
      · exact happ _ _ hd (by simp)
      · exact hd
    · exact happ _ _ hk hs

theorem flat_length_dropLast (d : UInt8) (ks : List (List UInt8)) : (flat d ks.dropLast).length ≤ (flat d ks).length := by
  rcases List.eq_nil_or_concat ks with rfl | ⟨l, x, rfl⟩
  · simp
  · rw [List.concat_eq_append, List.dropLast_concat, flat_append, List.length_append]; omega
/-- One segment further nothing has grown. -/
theorem keepStep_length (last : Bool) (kept : List (List UInt8)) (seg : List UInt8) : (flat 47 (keepStep last kept seg)).length ≤ (flat 47 kept).length + (seg.length + 1) := by
  have := flat_length_dropLast 47 kept
  unfold keepStep
  split
  · rename_i h; subst h
    split
    · rw [flat_append, flat_one]; simp
    · simp
  · split
    · rename_i h; subst h
      split
      · rw [flat_append, flat_one]; simp; omega
      · simp; omega
    · rw [flat_append, flat_one]; simp
theorem rmL_length : ∀ (segs kept : List (List UInt8)), (flat 47 (rmL segs kept)).length ≤ (flat 47 kept).length + (flat 47 segs).length
  | [], kept => by simp [rmL, flat]
  | seg :: more, kept => by
    have h1 := rmL_length more (keepStep more.isEmpty kept seg)
    have h2 := keepStep_length more.isEmpty kept seg
    rw [rmL]
    simp only [flat, List.length_cons, List.length_append]
    omega
theorem keptOf_length (s : List UInt8) : (flat 47 (keptOf s)).length ≤ s.length + 1 := by
  have := rmL_length (parts 47 s) []
  rw [flat_parts] at this
  simpa [flat, keptOf] using this
end Go.Proofs.Qxb6602632aDoor
