/-
  The walks of the two guards, of the hand-over and of the prefix test (functions 6, 7, 8, 11, 12).
-/
import Derived.Test.Qxb6601456aDoorRows
import Derived.WalkKit
import Derived.WalkSpells
import Derived.WalkLawsBesides
import Derived.Lib.Strings
namespace Go.Proofs.Qxb6601456aDoor
open Go.RowKit

/-- The first k patterns' bytes. -/
def sumSz (pat : Nat → ByteArray) : Nat → Nat
  | 0 => 0
  | k + 1 => sumSz pat k + (pat k).size

/-- It answers one bool of which p holds; the world is as it was. -/
def Says (p : Bool → Prop) (w : World) (e : Ending) (w' : World) : Prop := ∃ r : Bool, e = .returned (.bool r) ∧ w' = w ∧ p r

/-- What a slice of rules holds, as far as the guards look: the patterns' cells. -/
def PatsAt (w : World) (a : Option Addr) (len : Nat) (pat : Nat → ByteArray) : Prop :=
  ∀ i, i < len → (pat i).size ≤ 9223372036854775807 ∧ ∃ b off, a = some ⟨b, off, none⟩ ∧ w.cell? ⟨b, off + i * 2 + 1, none⟩ = some (.string (pat i))

set_option maxHeartbeats 400000 in
theorem bytes12 (s t : ByteArray) (w : World) (hs : s.size ≤ maxLen) (ht : t.size ≤ maxLen) :
    Calls Tryd.prog 12 #[.string s, .string t] w (Says (fun r => r = true → s.size + t.size ≤ 1048576) w) := by
  unfold maxLen at hs ht
  go_enter Tryd.func12, Tryd.ntmps12
  go_wp2
  all_goals go_ret
  all_goals refine ⟨_, rfl, rfl, ?_⟩
  all_goals first | (intro h; cases h; done) | (intro _; omega)

set_option maxHeartbeats 400000 in
theorem bytes6 (a : Option Addr) (len cap : Nat) (pat : Nat → ByteArray) (w : World) (hl : len ≤ maxLen) (hc : PatsAt w a len pat) :
    Calls Tryd.prog 6 #[.slice a len cap] w (Says (fun r => r = true → len + sumSz pat len ≤ 1048576) w) := by
  unfold maxLen at hl
  go_enter Tryd.func6, Tryd.ntmps6
  go_wp2
  · go_ret; exact ⟨_, rfl, rfl, fun h => by cases h⟩
  · go_loop [3, 4] (fun n i => ∃ k : Nat, k ≤ len ∧ i = .int .i64 k ∧ len + sumSz pat k ≤ 1048576 ∧ n = .int .i64 (len + sumSz pat k : Nat)) (fun _ i => len - (intOf i).toNat)
    case atStart => exact ⟨0, Nat.zero_le _, rfl, by simp [sumSz]; omega, rfl⟩
    case round =>
      obtain ⟨k, hk, rfl, hb, rfl⟩ := hrel
      by_cases hlt : k < len
      · obtain ⟨hpk, b, off, rfl, hck⟩ := hc k hlt
        have HS : Hid (sumSz pat (k + 1) = sumSz pat k + (pat k).size) := rfl
        clear hc
        go_wp2
        · go_ret; exact ⟨_, rfl, rfl, fun h => by cases h⟩
        · go_ret; exact ⟨_, rfl, rfl, fun h => by cases h⟩
        · go_round
          case rel => exact ⟨k + 1, by omega, by go_num, by rw [HS.out]; omega, by rw [HS.out]; go_num⟩
          case measure => simp [intOf]; omega
      · clear hc
        go_wp2
        go_ret
        have : k = len := by omega
        subst this
        exact ⟨_, rfl, rfl, fun _ => hb⟩

theorem sumSz_mono (pat : Nat → ByteArray) (i : Nat) : ∀ n, i ≤ n → sumSz pat i ≤ sumSz pat n
  | 0, h => by obtain rfl : i = 0 := by omega
               exact Nat.le_refl _
  | n + 1, h => by
    rcases Nat.lt_or_ge n i with h1 | h1
    · obtain rfl : i = n + 1 := by omega
      exact Nat.le_refl _
    · have := sumSz_mono pat i n h1
      simp only [sumSz]
      omega
theorem sumSz_at (pat : Nat → ByteArray) (n i : Nat) (h : i < n) : (pat i).size ≤ sumSz pat n := by
  have := sumSz_mono pat (i + 1) n h
  simp only [sumSz] at this
  omega

set_option maxHeartbeats 400000 in
theorem tooBig7 (a : Option Addr) (len cap : Nat) (pat : Nat → ByteArray) (w : World) (hl : len ≤ maxLen) (hsm : sumSz pat len ≤ 1048576) (hc : PatsAt w a len pat) :
    Calls Tryd.prog 7 #[.slice a len cap] w (Says (fun r => r = false → len ≤ 65536 ∧ 24 * len + sumSz pat len ≤ 1048576) w) := by
  unfold maxLen at hl
  go_enter Tryd.func7, Tryd.ntmps7
  go_wp2
  · go_ret; exact ⟨_, rfl, rfl, fun h => by cases h⟩
  · go_loop [3, 4] (fun n i => ∃ k : Nat, k ≤ len ∧ i = .int .i64 k ∧ 24 * len + sumSz pat k ≤ 2621440 ∧ n = .int .i64 (24 * len + sumSz pat k : Nat)) (fun _ i => len - (intOf i).toNat)
    case atStart => exact ⟨0, Nat.zero_le _, rfl, by simp [sumSz]; omega, by simp [sumSz]⟩
    case round =>
      obtain ⟨k, hk, rfl, hb, rfl⟩ := hrel
      by_cases hlt : k < len
      · obtain ⟨_, b, off, rfl, hck⟩ := hc k hlt
        have hpk := Nat.le_trans (sumSz_at pat len k hlt) hsm
        have hkk := Nat.le_trans (sumSz_mono pat (k + 1) len hlt) hsm
        have HS : Hid (sumSz pat (k + 1) = sumSz pat k + (pat k).size) := rfl
        clear hc
        go_wp2
        · go_ret; exact ⟨_, rfl, rfl, fun h => by cases h⟩
        · go_round
          case rel => exact ⟨k + 1, by omega, by go_num, by rw [HS.out]; omega, by rw [HS.out]; go_num⟩
          case measure => simp [intOf]; omega
      · clear hc
        go_wp2
        go_ret
        have : k = len := by omega
        subst this
        refine ⟨_, rfl, rfl, fun h => ?_⟩
        have h2 := of_decide_eq_false h
        exact ⟨by omega, by omega⟩

theorem front_of_append (s p : ByteArray) (r : List UInt8) (h : s.data.toList = p.data.toList ++ r) : ((s.extract 0 p.size).toList == p.toList) = true := by
  rw [Lib.extract_toList, Lib.toList_data, h, beq_iff_eq]
  rw [Nat.sub_zero, List.drop_zero, Lib.size_eq p, List.take_left]

set_option maxHeartbeats 400000 in
theorem prefix11 (s p : ByteArray) (r : List UInt8) (w : World) (h : s.data.toList = p.data.toList ++ r) :
    Calls Tryd.prog 11 #[.string s, .string p] w fun e w' => e = .returned (.bool true) ∧ w' = w := by
  have hle : p.size ≤ s.size := by rw [Lib.size_eq, Lib.size_eq, h]; simp
  have hf := front_of_append s p r h
  clear h
  go_enter Tryd.func11, Tryd.ntmps11
  go_wp2
  go_ret
  exact ⟨rfl, rfl⟩
end Go.Proofs.Qxb6601456aDoor
