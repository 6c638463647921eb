/-
  The walks of the byte guard, of lvHasAt and of the maker (functions 5, 8, 7); the library's two callees.
-/
import Derived.Test.Qxb6602881aDoorRows
import Derived.Test.Qxb6602881aDoorParts
import Derived.Test.Qxb6602881aDoorShelf
import Derived.WalkKit
import Derived.WalkSpells
import Derived.WalkLawsBesides
import Derived.Lib.Strings
import Derived.Lib.SmallJoins
namespace Go.Proofs.Qxb6602881aDoor
open Go.RowKit

/-- It answers one bool of which p holds; the world is as it was. -/
def Says (p : Bool → Prop) (w : World) (e : Ending) (w' : World) : Prop := ∃ r : Bool, e = .returned (.bool r) ∧ w = w' ∧ p r

set_option maxHeartbeats 400000 in
theorem bytes5 (s t : ByteArray) (w : World) (hs : s.size ≤ maxLen) (ht : t.size ≤ maxLen) : Calls Tryd.prog 5 #[.string s, .string t] w (Says (fun r => r = true → s.size + t.size ≤ 1048576) w) := by
  unfold maxLen at hs ht
  go_enter Tryd.func5, Tryd.ntmps5
  go_wp2
  all_goals go_ret
  all_goals refine ⟨_, rfl, rfl, ?_⟩
  all_goals first | (intro h; cases h; done) | (intro _; omega)

/-- Texts as cells. -/
def txt (l : List UInt8) : ByteArray := ⟨l.toArray⟩
def scells (ws : List (List UInt8)) : List Value := ws.map fun l => .string (txt l)
theorem txt_data (l : List UInt8) : (txt l).data.toList = l := rfl
theorem txt_size (l : List UInt8) : (txt l).size = l.length := by rw [Lib.size_eq]; rfl
theorem txt_of (b : ByteArray) : txt b.data.toList = b := Lib.mk_data b

theorem split17 (s : ByteArray) (m : Int) (w : World) (hs : s.size ≤ 1048576) (hm : w.cell? ⟨0, 0, none⟩ = some (.int .i64 m)) :
    Calls Tryd.prog 17 #[.string s, .string ⟨#[44]⟩] w fun e w' =>
      e = .returned (.slice (some ⟨w.heap.size, 0, none⟩) (parts 44 s.data.toList).length (parts 44 s.data.toList).length) ∧ w' = w.alloc (.cells (scells (parts 44 s.data.toList)).toArray 9) := by
  have h := Tryd.strings_Split s ⟨#[44]⟩ m w (by omega) hm (by decide)
  have hd : (Lib.splitB ⟨#[44]⟩ 0 (Lib.countB s ⟨#[44]⟩) s).map (·.data.toList) = parts 44 s.data.toList := (Lib.splitB_data ⟨#[44]⟩ 0 (Lib.countB s ⟨#[44]⟩) s).trans (splitK_parts 44 s.data.toList)
  have hv : (Lib.splitB ⟨#[44]⟩ 0 (Lib.countB s ⟨#[44]⟩) s).map Value.string = scells (parts 44 s.data.toList) := by
    unfold scells
    rw [← hd, List.map_map]
    exact List.map_congr_left fun x _ => by simp only [Function.comp_apply, txt_of]
  have hn : Lib.countB s ⟨#[44]⟩ + 1 = (parts 44 s.data.toList).length := by
    rw [parts_count]
    show Lib.count s.data.toList [44] + 1 = _
    rw [Lib.count_one]
  rw [hv, hn] at h
  exact h

theorem indexByte_ge (c : UInt8) (l : List UInt8) : -1 ≤ Lib.indexByte l c := by
  induction l with
  | nil => exact Int.le_refl _
  | cons b l ih =>
    rw [Lib.indexByte]
    split
    · decide
    · split <;> omega
theorem indexByte_has (c : UInt8) (l : List UInt8) : decide (0 ≤ Lib.indexByte l c) = l.contains c := by
  induction l with
  | nil => rfl
  | cons b l ih =>
    rw [Lib.indexByte, List.contains_cons, ← ih]
    have hge := indexByte_ge c l
    by_cases h : b = c
    · subst h; simp
    · have h1 : (b == c) = false := by simpa using h
      have h2 : (c == b) = false := by simpa using Ne.symm h
      rw [h1, h2, Bool.false_or]
      simp only [Bool.false_eq_true, if_false]
      by_cases e : Lib.indexByte l c = -1
      · rw [e]; rfl
      · have e1 : (Lib.indexByte l c == -1) = false := by simpa using e
        rw [e1]
        simp only [Bool.false_eq_true, if_false]
        rw [decide_eq_decide]
        omega
theorem contains16 (s : ByteArray) (w : World) : Calls Tryd.prog 16 #[.string s, .string ⟨#[64]⟩] w fun e w' => e = .returned (.bool (s.data.toList.contains 64)) ∧ w = w' := by
  refine (Tryd.strings_Contains_one s 64 w).mono fun e w' hh => ⟨hh.1.trans ?_, hh.2.symm⟩
  rw [indexByte_has]

theorem byte_at (s : ByteArray) (k : Nat) (h : k < s.size) : s.data.toList[k]? = some s[k] := by
  rw [List.getElem?_eq_getElem (by simpa using h)]; rfl
theorem eq_byte {c : UInt8} {n : Nat} [OfNat UInt8 n] (h : c = OfNat.ofNat n) (hn : (OfNat.ofNat n : UInt8).toNat = n := by rfl) : (c.toNat : Int) ≤ (n : Int) ∧ (n : Int) ≤ (c.toNat : Int) := by
  have : c.toNat = n := by rw [h]; exact hn
  omega
theorem ne_byte {c : UInt8} {n : Nat} [OfNat UInt8 n] (h : c ≠ OfNat.ofNat n) (hn : (OfNat.ofNat n : UInt8).toNat = n := by rfl) : ((c.toNat : Int) == (n : Int)) = false := by
  rw [beq_eq_false_iff_ne]
  intro e
  exact h (UInt8.toNat_inj.1 (by omega))
theorem take_snoc (s : ByteArray) (k : Nat) (h : k < s.size) : s.data.toList.take (k + 1) = s.data.toList.take k ++ [s[k]] := by
  rw [List.take_succ_eq_append_getElem (by simpa using h)]; rfl

set_option maxHeartbeats 400000 in
theorem has8 (s : ByteArray) (w : World) (hs : s.size ≤ 1048576) : Calls Tryd.prog 8 #[.string s] w fun e w' => e = .returned (.bool (s.data.toList.contains 64)) ∧ w = w' := by
  obtain ⟨R, hR⟩ : ∃ R, R = s.data.toList.contains 64 := ⟨_, rfl⟩
  rw [← hR]
  have HR : Hid (R = s.data.toList.contains 64) := hR
  clear hR
  go_enter Tryd.func8, Tryd.ntmps8
  go_wp2
  go_loop [3] (fun i => ∃ k : Nat, k ≤ s.size ∧ i = .int .i64 k ∧ (64 : UInt8) ∉ s.data.toList.take k) (fun i => s.size - (intOf i).toNat)
  case atStart => exact ⟨0, Nat.zero_le _, rfl, by simp⟩
  case round =>
    obtain ⟨k, hk, rfl, hnot⟩ := hrel
    have HN : Hid ((64 : UInt8) ∉ s.data.toList.take k) := hnot
    clear hnot
    by_cases hlt : k < s.size
    · by_cases hc : s[k] = 64
      · have a1 : (s[k].toNat : Int) ≤ 64 := (eq_byte hc).1
        have a2 : 64 ≤ (s[k].toNat : Int) := (eq_byte hc).2
        have e : R = true := by
          rw [HR.out, List.contains_iff_mem, ← hc]
          exact List.mem_of_getElem? (byte_at s k hlt)
        subst e
        clear hc
        go_wp2
        go_ret
        exact ⟨rfl, rfl⟩
      · have a1 : ((s[k].toNat : Int) == 64) = false := ne_byte hc
        have HN2 : Hid ((64 : UInt8) ∉ s.data.toList.take (k + 1)) := by
          show ¬ _
          rw [take_snoc s k hlt, List.mem_append, List.mem_singleton]
          rintro (h | h)
          · exact HN.out h
          · exact hc h.symm
        clear hc
        go_wp2
        go_round
        case rel => exact ⟨k + 1, by omega, by go_num, HN2.out⟩
        case measure => simp [intOf]; omega
    · have e : R = false := by
        have := HN.out
        rw [List.take_of_length_le (by rw [← Lib.size_eq]; omega)] at this
        rw [HR.out]
        simpa using this
      subst e
      go_wp2
      go_ret
      exact ⟨rfl, rfl⟩

set_option maxHeartbeats 400000 in
theorem make7 (a b : ByteArray) (w : World) : Calls Tryd.prog 7 #[.string a, .string b] w fun e w' => e = .returned (.agg #[.string a, .string b]) ∧ Below w.heap.size w w' := by
  go_enter Tryd.func7, Tryd.ntmps7
  go_wp2
  exact bodyPost_ret (v := .agg #[.string a, .string b]) (by simp [results, Tryd.results7, go_sem]) rfl ⟨rfl, (Below.refl _ _).alloc (Nat.le_refl _) _⟩
end Go.Proofs.Qxb6602881aDoor
