/-
  Plain lists: how a shell reads words (no Go in sight).
-/
namespace Go.Proofs.Qxb6601456aDoor

/-- A shell's reader: mode 0: outside quotes; 1: inside a quote; 2: behind a backslash. -/
def sh : List UInt8 → Nat → List UInt8 → Bool → List (List UInt8) → Option (List (List UInt8))
  | [], 0, cur, inW, ws => some (if inW then ws ++ [cur] else ws)
  | [], _ + 1, _, _, _ => none
  | c :: r, 0, cur, inW, ws =>
    if c = 32 then (if inW then sh r 0 [] false (ws ++ [cur]) else sh r 0 cur false ws)
    else if c = 39 then sh r 1 cur true ws
    else if c = 92 then sh r 2 cur true ws
    else sh r 0 (cur ++ [c]) true ws
  | c :: r, 1, cur, _, ws => if c = 39 then sh r 0 cur true ws else sh r 1 (cur ++ [c]) true ws
  | c :: r, _ + 2, cur, _, ws => sh r 0 (cur ++ [c]) true ws

theorem sh_nil (cur : List UInt8) (inW : Bool) (ws : List (List UInt8)) : sh [] 0 cur inW ws = some (if inW then ws ++ [cur] else ws) := by rw [sh]
theorem sh_space (r cur : List UInt8) (ws : List (List UInt8)) (inW : Bool) : sh (32 :: r) 0 cur inW ws = if inW then sh r 0 [] false (ws ++ [cur]) else sh r 0 cur false ws := by rw [sh, if_pos rfl]
theorem sh_quote (r cur : List UInt8) (ws : List (List UInt8)) (inW : Bool) : sh (39 :: r) 0 cur inW ws = sh r 1 cur true ws := by rw [sh, if_neg (by decide), if_pos rfl]
theorem sh_back (r cur : List UInt8) (ws : List (List UInt8)) (inW : Bool) (c : UInt8) : sh (92 :: c :: r) 0 cur inW ws = sh r 0 (cur ++ [c]) true ws := by
  rw [sh, if_neg (by decide), if_neg (by decide), if_pos rfl, sh]
theorem sh_back_end (cur : List UInt8) (ws : List (List UInt8)) (inW : Bool) : sh [92] 0 cur inW ws = none := by
  rw [sh, if_neg (by decide), if_neg (by decide), if_pos rfl, sh]
theorem sh_plain (r cur : List UInt8) (ws : List (List UInt8)) (inW : Bool) (c : UInt8) (h1 : c ≠ 32) (h2 : c ≠ 39) (h3 : c ≠ 92) : sh (c :: r) 0 cur inW ws = sh r 0 (cur ++ [c]) true ws := by
  rw [sh, if_neg h1, if_neg h2, if_neg h3]
theorem sh_in (q : List UInt8) : ∀ (r cur : List UInt8) (ws : List (List UInt8)) (inW : Bool), 39 ∉ q → sh (q ++ 39 :: r) 1 cur inW ws = sh r 0 (cur ++ q) true ws := by
  induction q with
  | nil => intro r cur ws inW _; rw [List.nil_append, sh, if_pos rfl, List.append_nil]
  | cons c q ih =>
    intro r cur ws inW h
    rw [List.mem_cons, not_or] at h
    rw [List.cons_append, sh, if_neg (fun e => h.1 e.symm), ih _ _ _ _ h.2, List.append_assoc, List.singleton_append]
theorem sh_open (q : List UInt8) : ∀ (cur : List UInt8) (ws : List (List UInt8)) (inW : Bool), 39 ∉ q → sh q 1 cur inW ws = none := by
  induction q with
  | nil => intro cur ws inW _; rw [sh]
  | cons c q ih =>
    intro cur ws inW h
    rw [List.mem_cons, not_or] at h
    rw [sh, if_neg (fun e => h.1 e.symm), ih _ _ _ h.2]

end Go.Proofs.Qxb6601456aDoor
