import Derived.Test.Qxb6601663aDoorSpell
namespace Go.Proofs.Qxb6601663aDoor
open Go.RowKit

/-- A hexadecimal digit's byte. -/
def hexish (n : Nat) : Prop := (48 ≤ n ∧ n ≤ 57) ∨ (97 ≤ n ∧ n ≤ 102) ∨ (65 ≤ n ∧ n ≤ 70)
/-- The form of an id. -/
def IdOk (l : List UInt8) : Prop := l.length = 36 ∧ ∀ j, j < 36 → if j = 8 ∨ j = 13 ∨ j = 18 ∨ j = 23 then (l.getD j 0).toNat = 45 else hexish (l.getD j 0).toNat

theorem byte_at (s : ByteArray) (k : Nat) (h : k < s.size) : s.data.toList.getD k 0 = s[k] := by
  rw [List.getD_eq_getElem?_getD, List.getElem?_eq_getElem (by simpa using h)]; rfl

set_option maxRecDepth 100000 in
set_option maxHeartbeats 1000000 in
theorem valid8 (s : ByteArray) (w : World) (h : IdOk s.data.toList) :
    Calls Tryd.prog 8 #[.string s] w fun e w' => e = .returned (.bool true) ∧ w = w' := by
  have hs1 : s.size ≤ 36 := by have := h.1; rw [← Lib.size_eq] at this; omega
  have hs2 : 36 ≤ s.size := by have := h.1; rw [← Lib.size_eq] at this; omega
  have HV : Hid (∀ j, j < 36 → if j = 8 ∨ j = 13 ∨ j = 18 ∨ j = 23 then (s.data.toList.getD j 0).toNat = 45 else hexish (s.data.toList.getD j 0).toNat) := h.2
  have hn : ((s.size : Int) != 36) = false := by rw [bne_eq_false_iff_eq]; omega
  clear h
  go_enter Tryd.func8, Tryd.ntmps8
  go_wp2
  go_loop [10] (fun i => ∃ k : Nat, k ≤ 36 ∧ i = .int .i64 k) (fun i => 36 - (intOf i).toNat)
  case atStart => exact ⟨0, by omega, rfl⟩
  case round =>
    obtain ⟨k, hk, rfl⟩ := hrel
    by_cases hlt : k < 36
    · have hks : k < s.size := by omega
      have hv := HV.out k hlt
      rw [byte_at s k hks] at hv
      by_cases hy : k = 8 ∨ k = 13 ∨ k = 18 ∨ k = 23
      · rw [if_pos hy] at hv
        have b1 : (s[k].toNat : Int) ≤ 45 := by omega
        have b2 : 45 ≤ (s[k].toNat : Int) := by omega
        clear hv
        rcases hy with rfl | rfl | rfl | rfl
        all_goals
          go_wp2
          go_round
          case rel => first | exact ⟨9, by omega, rfl⟩ | exact ⟨14, by omega, rfl⟩ | exact ⟨19, by omega, rfl⟩ | exact ⟨24, by omega, rfl⟩
          case measure => simp [intOf]
      · rw [if_neg hy] at hv
        have n8 : ((k : Int) == 8) = false := by rw [beq_eq_false_iff_ne]; omega
        have n13 : ((k : Int) == 13) = false := by rw [beq_eq_false_iff_ne]; omega
        have n18 : ((k : Int) == 18) = false := by rw [beq_eq_false_iff_ne]; omega
        have n23 : ((k : Int) == 23) = false := by rw [beq_eq_false_iff_ne]; omega
        clear hy
        rcases hv with ⟨b1, b2⟩ | ⟨b1, b2⟩ | ⟨b1, b2⟩
        · have d1 : decide ((48 : Int) ≤ (s[k].toNat : Int)) = true := decide_eq_true (by omega)
          have d2 : decide ((s[k].toNat : Int) ≤ 57) = true := decide_eq_true (by omega)
          go_wp2
          go_round
          case rel => exact ⟨k + 1, by omega, by go_num⟩
          case measure => simp [intOf]; omega
        · have d1 : decide ((48 : Int) ≤ (s[k].toNat : Int)) = true := decide_eq_true (by omega)
          have d2 : decide ((s[k].toNat : Int) ≤ 57) = false := decide_eq_false (by omega)
          have d3 : decide ((97 : Int) ≤ (s[k].toNat : Int)) = true := decide_eq_true (by omega)
          have d4 : decide ((s[k].toNat : Int) ≤ 102) = true := decide_eq_true (by omega)
          go_wp2
          go_round
          case rel => exact ⟨k + 1, by omega, by go_num⟩
          case measure => simp [intOf]; omega
        · have d1 : decide ((48 : Int) ≤ (s[k].toNat : Int)) = true := decide_eq_true (by omega)
          have d2 : decide ((s[k].toNat : Int) ≤ 57) = false := decide_eq_false (by omega)
          have d3 : decide ((97 : Int) ≤ (s[k].toNat : Int)) = false := decide_eq_false (by omega)
          have d4 : decide ((65 : Int) ≤ (s[k].toNat : Int)) = true := decide_eq_true (by omega)
          have d5 : decide ((s[k].toNat : Int) ≤ 70) = true := decide_eq_true (by omega)
          go_wp2
          go_round
          case rel => exact ⟨k + 1, by omega, by go_num⟩
          case measure => simp [intOf]; omega
    · go_wp2
      go_ret
      exact ⟨rfl, rfl⟩
end Go.Proofs.Qxb6601663aDoor
