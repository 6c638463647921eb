/-
  The plain laws of the spelling; lower case (functions 18, 9).
-/
import Derived.Test.Qxb6601663aDoorValid
import Derived.Test.Qxb6601663aDoorShelf
namespace Go.Proofs.Qxb6601663aDoor
open Go.RowKit

theorem hexV_hexish (v : Nat) (up : Bool) (h : v < 16) : hexish (hexV v up).toNat := by
  rw [hexV_val v up h]
  unfold hexish
  split
  · omega
  · split <;> omega
theorem div16 (b : UInt8) : b.toNat / 16 < 16 := by have := b.toNat_lt; omega
theorem mod16 (b : UInt8) : b.toNat % 16 < 16 := by omega

set_option maxRecDepth 100000 in
theorem spell_ok (bs : List UInt8) (mask : Nat) : IdOk (spellK bs mask 16) := by
  refine ⟨by simp [spellK, spellAt], ?_⟩
  obtain ⟨X, hX⟩ : ∃ X, spellK bs mask 16 = X := ⟨_, rfl⟩
  rw [hX]
  simp only [spellK, spellAt] at hX
  simp only [Nat.reduceEqDiff, or_self, or_true, or_false, if_true, if_false, List.nil_append, List.cons_append] at hX
  subst hX
  intro j hj
  rcases j with _ | _ | _ | _ | _ | _ | _ | _ | _ | _ | _ | _ | _ | _ | _ | _ | _ | _ | _ | _ | _ | _ | _ | _ | _ | _ | _ | _ | _ | _ | _ | _ | _ | _ | _ | _ | j
  all_goals first | exact hexV_hexish _ _ (div16 _) | exact hexV_hexish _ _ (mod16 _) | rfl | (exfalso; omega)

theorem bit_zero (j : Nat) : bit 0 j = false := by simp [bit]
theorem low_hex (v : Nat) (up : Bool) (h : v < 16) : Lib.lowerB (hexV v up) = hexV v false := by
  have : ∀ (u : Fin 16) (up : Bool), Lib.lowerB (hexV u.val up) = hexV u.val false := by decide
  exact this ⟨v, h⟩ up
theorem low_at (mask k : Nat) (b : UInt8) : (spellAt mask k b).map Lib.lowerB = spellAt 0 k b := by
  unfold spellAt
  rw [bit_zero, bit_zero, List.map_append, List.map_cons, List.map_cons, List.map_nil, low_hex _ _ (div16 b), low_hex _ _ (mod16 b)]
  congr 1
  split <;> rfl
theorem low_spell (bs : List UInt8) (mask k : Nat) : Lib.toLowerA (spellK bs mask k) = spellK bs 0 k := by
  unfold Lib.toLowerA
  induction k with
  | zero => rfl
  | succ k ih => rw [spellK, List.map_append, ih, low_at, spellK]

theorem hexV_ascii (v : Nat) (up : Bool) (h : v < 16) : (hexV v up).toNat < 128 := by
  rw [hexV_val v up h]; split
  · omega
  · split <;> omega
theorem spell_ascii (bs : List UInt8) (mask k : Nat) : ∀ c ∈ spellK bs mask k, c.toNat < 128 := by
  induction k with
  | zero => intro c hc; simp [spellK] at hc
  | succ k ih =>
    intro c hc
    rw [spellK, List.mem_append] at hc
    rcases hc with hc | hc
    · exact ih c hc
    · unfold spellAt at hc
      rw [List.mem_append] at hc
      rcases hc with hc | hc
      · split at hc
        · simp at hc; subst hc; decide
        · simp at hc
      · simp only [List.mem_cons, List.mem_nil_iff, or_false] at hc
        rcases hc with rfl | rfl
        · exact hexV_ascii _ _ (div16 _)
        · exact hexV_ascii _ _ (mod16 _)

/-- The spelling as a string. -/
def spellB (bs : List UInt8) (mask : Nat) : ByteArray := ⟨(spellK bs mask 16).toArray⟩
theorem spellB_ok (bs : List UInt8) (mask : Nat) : IdOk (spellB bs mask).data.toList := spell_ok bs mask

theorem lower18 (bs : List UInt8) (mask : Nat) (w : World) :
    Calls Tryd.prog 18 #[.string (spellB bs mask)] w fun e w' => e = .returned (.string (spellB bs 0)) ∧ Below w.heap.size w w' := by
  refine (Tryd.strings_ToLower_ascii (spellB bs mask) w ?_ ?_).mono fun e w' hh => ⟨hh.1.trans ?_, hh.2⟩
  · have := (spellB_ok bs mask).1
    rw [← Lib.size_eq] at this
    omega
  · intro j b hj
    exact spell_ascii bs mask 16 b (List.mem_of_getElem? hj)
  · show Ending.returned (.string ⟨(Lib.toLowerA (spellK bs mask 16)).toArray⟩) = _
    rw [low_spell]; rfl

set_option maxHeartbeats 400000 in
theorem canon9 (bs : List UInt8) (mask : Nat) (w : World) :
    Calls Tryd.prog 9 #[.string (spellB bs mask)] w fun e w' => e = .returned (.string (spellB bs 0)) ∧ Below w.heap.size w w' := by
  go_enter Tryd.func9, Tryd.ntmps9
  go_wp2_with fail
  refine (valid8 _ _ (spellB_ok bs mask)).mono ?_
  rintro e w' ⟨rfl, rfl⟩
  go_wp2_with fail
  refine (lower18 bs mask _).mono ?_
  rintro e w1 ⟨rfl, hb⟩
  go_wp2
  go_ret
  exact ⟨rfl, hb⟩

set_option maxHeartbeats 400000 in
theorem unhex19 (c r : Int) (w : World) (h : (48 ≤ c ∧ c ≤ 57 ∧ r = c - 48) ∨ (97 ≤ c ∧ c ≤ 102 ∧ r = c - 87) ∨ (65 ≤ c ∧ c ≤ 70 ∧ r = c - 55)) :
    Calls Tryd.prog 19 #[.int .u8 c] w fun e w' => e = .returned (.int .u8 r) ∧ w = w' := by
  rcases h with ⟨h1, h2, h3⟩ | ⟨h1, h2, h3⟩ | ⟨h1, h2, h3⟩
  all_goals
    subst h3
    go_enter Tryd.func19, Tryd.ntmps19
    go_wp2
    all_goals go_ret
    all_goals exact ⟨by go_num, rfl⟩

theorem unhex_hex (v : Nat) (up : Bool) (h : v < 16) (w : World) :
    Calls Tryd.prog 19 #[.int .u8 ((hexV v up).toNat : Int)] w fun e w' => e = .returned (.int .u8 (v : Int)) ∧ w = w' := by
  refine unhex19 _ _ w ?_
  rw [hexV_val v up h]
  split
  · omega
  · split <;> omega
end Go.Proofs.Qxb6601663aDoor
