/-
  Plain lists: how a rule is written as one shell word, and that a shell reads it back (no Go in sight).
-/
import Derived.Test.Qxb6601456aDoorPlain
import Derived.Lib.Replace
import Derived.Lib.SplitLaws
import Derived.Lib.Join
namespace Go.Proofs.Qxb6601456aDoor
open Go.Lib

/-- A pattern inside a quote: each quote is written as quote, backslash, quote, quote. -/
def esc : List UInt8 → List UInt8
  | [] => []
  | c :: l => (if c = 39 then [39, 92, 39, 39] else [c]) ++ esc l
theorem esc_length (l : List UInt8) : (esc l).length ≤ 4 * l.length := by
  induction l with
  | nil => simp [esc]
  | cons c l ih => rw [esc, List.length_append, List.length_cons]; split <;> simp <;> omega

theorem index_quote (l : List UInt8) : index (39 :: l) [39] = 0 := by simp [index]
theorem index_other (c : UInt8) (l : List UInt8) (h : c ≠ 39) : index (c :: l) [39] = if index l [39] == -1 then -1 else index l [39] + 1 := by
  have : ([39] : List UInt8).isPrefixOf (c :: l) = false := by simp [List.isPrefixOf, beq_eq_false_iff_ne, Ne.symm h]
  rw [index, this]; rfl

theorem replaceK_other (c : UInt8) (h : c ≠ 39) (new : List UInt8) (k : Nat) (l : List UInt8) : replaceK [39] new k (c :: l) = c :: replaceK [39] new k l := by
  cases k with
  | zero => rfl
  | succ k =>
    rw [replaceK, replaceK, index_other c l h]
    by_cases e : index l [39] = -1
    · rw [e]; rfl
    · have e1 : (index l [39] == -1) = false := beq_eq_false_iff_ne.2 e
      have e2 := index_ge l [39]
      have e3 : (index l [39] + 1 == -1) = false := beq_eq_false_iff_ne.2 (by omega)
      rw [e1]
      simp only [Bool.false_eq_true, if_false, e3]
      have e4 : (index l [39] + 1).toNat = (index l [39]).toNat + 1 := by omega
      rw [e4, show (index l [39]).toNat + 1 + [(39 : UInt8)].length = ((index l [39]).toNat + [(39 : UInt8)].length) + 1 from by omega]
      simp

theorem replaceK_esc (l : List UInt8) : replaceK [39] [39, 92, 39, 39] (count l [39]) l = esc l := by
  induction l with
  | nil => rw [count_one]; rfl
  | cons c l ih =>
    by_cases h : c = 39
    · subst h
      rw [count_cons_eq, Nat.add_comm, replaceK_hit _ _ _ _ 0 (index_quote l), esc, if_pos rfl]
      simp only [List.take_zero, List.nil_append, Nat.zero_add, List.length_singleton, List.drop_succ_cons, List.drop_zero]
      rw [ih]
    · rw [count_cons_ne _ _ _ h, replaceK_other c h, ih, esc, if_neg h]; rfl

theorem replaceAll_esc (l : List UInt8) : replaceAll l [39] [39, 92, 39, 39] = esc l := by
  unfold replaceAll replace replaceNum
  rw [if_neg (by decide), if_pos (.inl (by decide)), replaceK_esc]

/-- The option's own text. -/
def optOf (inc : Bool) : List UInt8 := if inc then [45, 45, 105, 110, 99, 108, 117, 100, 101, 61] else [45, 45, 101, 120, 99, 108, 117, 100, 101, 61]
/-- One rule as it is written. -/
def wordOf (inc : Bool) (p : List UInt8) : List UInt8 := optOf inc ++ [39] ++ esc p ++ [39]
theorem wordOf_length (inc : Bool) (p : List UInt8) : (wordOf inc p).length ≤ 12 + 4 * p.length := by
  have := esc_length p
  cases inc <;> simp [wordOf, optOf] <;> omega

theorem sh_esc (p : List UInt8) : ∀ (r cur : List UInt8) (ws : List (List UInt8)) (inW : Bool), sh (esc p ++ 39 :: r) 1 cur inW ws = sh r 0 (cur ++ p) true ws := by
  induction p with
  | nil => intro r cur ws inW; rw [esc, List.nil_append, sh, if_pos rfl, List.append_nil]
  | cons c p ih =>
    intro r cur ws inW
    by_cases h : c = 39
    · subst h
      rw [esc, if_pos rfl]
      simp only [List.cons_append, List.nil_append]
      rw [sh, if_pos rfl, sh_back, sh_quote, ih]
      simp
    · rw [esc, if_neg h]
      simp only [List.cons_append, List.nil_append]
      rw [sh, if_neg h, ih]
      simp

theorem sh_opt (inc : Bool) (r : List UInt8) (ws : List (List UInt8)) : sh (optOf inc ++ r) 0 [] false ws = sh r 0 (optOf inc) true ws := by
  cases inc <;> simp only [optOf, Bool.false_eq_true, if_true, if_false, List.cons_append, List.nil_append] <;>
    (repeat rw [sh_plain _ _ _ _ _ (by decide) (by decide) (by decide)]) <;> rfl

theorem sh_word (inc : Bool) (p r : List UInt8) (ws : List (List UInt8)) : sh (wordOf inc p ++ r) 0 [] false ws = sh r 0 (optOf inc ++ p) true ws := by
  unfold wordOf
  rw [List.append_assoc, List.append_assoc, List.append_assoc, sh_opt]
  show sh (39 :: (esc p ++ 39 :: r)) 0 _ true ws = _
  rw [sh_quote, sh_esc]

/-- A shell reads back from the joined words each option with its pattern. -/
theorem sh_words (l : List (Bool × List UInt8)) : ∀ (x : Bool × List UInt8) (ws : List (List UInt8)),
    sh (join ((x :: l).map fun y => wordOf y.1 y.2) [32]) 0 [] false ws = some (ws ++ (x :: l).map fun y => optOf y.1 ++ y.2) := by
  induction l with
  | nil =>
    intro x ws
    have e : join ([x].map fun y => wordOf y.1 y.2) [32] = wordOf x.1 x.2 ++ [] := by simp [join, List.intercalate]
    rw [e, sh_word, sh_nil]
    rfl
  | cons y l ih =>
    intro x ws
    have e : join ((x :: y :: l).map fun y => wordOf y.1 y.2) [32] = wordOf x.1 x.2 ++ 32 :: join ((y :: l).map fun y => wordOf y.1 y.2) [32] := by simp [join, List.intercalate]
    rw [e, sh_word, sh_space, if_pos rfl, ih]
    simp

theorem join_length (l : List (List UInt8)) : (join l [32]).length ≤ (l.map fun x => x.length + 1).sum := by
  unfold join
  induction l with
  | nil => simp [List.intercalate]
  | cons x l ih =>
    cases l with
    | nil => simp [List.intercalate]
    | cons y l =>
      have e : [32].intercalate (x :: y :: l) = x ++ 32 :: [32].intercalate (y :: l) := by simp [List.intercalate]
      rw [e, List.length_append, List.length_cons, List.map_cons, List.sum_cons]
      omega
end Go.Proofs.Qxb6601456aDoor
