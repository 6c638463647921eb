/-
  className on a written class (functions 13, 17), and the law's walk (function 4).
-/
import Derived.Test.Qxb6601456aDoorShelf
import Derived.Test.Qxb6601456aDoorGuards
import Derived.Shelf.Strings.SlTrimAscii
import Derived.Lib.SmallJoins
namespace Go.Proofs.Qxb6601456aDoor
open Go.RowKit Go.Shelf

/-- The letters a to z. -/
def letters : List UInt8 := [97, 98, 99, 100, 101, 102, 103, 104, 105, 106, 107, 108, 109, 110, 111, 112, 113, 114, 115, 116, 117, 118, 119, 120, 121, 122]
/-- A text of letters alone. -/
def Small (l : List UInt8) : Prop := ∀ c ∈ l, 97 ≤ c.toNat ∧ c.toNat ≤ 122

theorem letters_has (c : UInt8) (h1 : 97 ≤ c.toNat) (h2 : c.toNat ≤ 122) : letters.contains c = true := by
  have : ∀ n : Fin 26, letters.contains (UInt8.ofNat (97 + n.val)) = true := by decide
  have e : c = UInt8.ofNat (97 + (c.toNat - 97)) := by
    rw [show 97 + (c.toNat - 97) = c.toNat by omega]
    simp
  rw [e]
  exact this ⟨c.toNat - 97, by omega⟩

theorem dropWhile_all {l : List UInt8} {p : UInt8 → Bool} (h : ∀ c ∈ l, p c = true) : l.dropWhile p = [] := by
  induction l with
  | nil => rfl
  | cons c l ih => rw [List.dropWhile_cons, if_pos (h c (by simp))]; exact ih fun d hd => h d (by simp [hd])

theorem trim_small {l : List UInt8} (h : Small l) : Lib.trimS l letters = [] := by
  unfold Lib.trimS Lib.trimRightS
  rw [dropWhile_all (fun c hc => letters_has c (h c (by simpa using hc)).1 (h c (by simpa using hc)).2)]
  rfl

theorem index_class {l : List UInt8} (t : List UInt8) (h : Small l) : Lib.index (l ++ 58 :: 93 :: t) [58, 93] = l.length := by
  refine Lib.index_first (by simp) ?_ ?_
  · unfold Lib.occAt
    rw [List.drop_left]
    simp [List.isPrefixOf]
  · intro j hj
    unfold Lib.occAt
    rw [List.drop_append_of_le_length (by omega), List.drop_eq_getElem_cons hj, List.cons_append]
    have := (h l[j] (List.getElem_mem hj)).1
    have : (58 : UInt8) ≠ l[j] := by
      intro e
      rw [← e] at this
      revert this
      decide
    simp [List.isPrefixOf, this]

theorem cut_class {l : List UInt8} (t : List UInt8) (h : Small l) : Lib.cut (l ++ 58 :: 93 :: t) [58, 93] = (l, t, true) := by
  unfold Lib.cut
  rw [index_class t h, if_pos (by omega)]
  simp

/-- The class as it is written, and what follows. -/
def classB (s t : ByteArray) : ByteArray := ⟨#[91, 58]⟩ ++ s ++ ⟨#[58, 93]⟩ ++ t
/-- .. without its first two bytes. -/
def restB (s t : ByteArray) : ByteArray := ⟨(s.data.toList ++ 58 :: 93 :: t.data.toList).toArray⟩
theorem classB_data (s t : ByteArray) : (classB s t).data.toList = 91 :: 58 :: (s.data.toList ++ 58 :: 93 :: t.data.toList) := by
  unfold classB
  rw [Joins.data_append, Joins.data_append, Joins.data_append]
  simp

theorem prefix22 (s t : ByteArray) (w : World) :
    Calls Tryd.prog 22 #[.string (classB s t), .string ⟨#[91, 58]⟩] w fun e w' => e = .returned (.tuple #[.string (restB s t), .bool true]) ∧ w = w' := by
  refine (Tryd.strings_CutPrefix (classB s t) ⟨#[91, 58]⟩ w).mono fun e w' hh => ⟨hh.1.trans ?_, hh.2.symm⟩
  have h1 : Lib.hasPrefix (classB s t).data.toList [91, 58] = true := by rw [classB_data]; simp [Lib.hasPrefix, List.isPrefixOf]
  have h2 : Lib.trimPrefix (classB s t).data.toList [91, 58] = s.data.toList ++ 58 :: 93 :: t.data.toList := by
    unfold Lib.trimPrefix
    rw [if_pos h1, classB_data]
    rfl
  show Ending.returned (.tuple #[.string ⟨(Lib.trimPrefix (classB s t).data.toList [91, 58]).toArray⟩, .bool (Lib.hasPrefix (classB s t).data.toList [91, 58])]) = _
  rw [h1, h2]
  rfl

theorem cut23 (s t : ByteArray) (m : Int) (w : World) (hs : s.size ≤ 524288) (ht : t.size ≤ 524288) (hm : w.cell? ⟨0, 0, none⟩ = some (.int .i64 m)) (h : Small s.data.toList) :
    Calls Tryd.prog 23 #[.string (restB s t), .string ⟨#[58, 93]⟩] w fun e w' => e = .returned (.tuple #[.string s, .string t, .bool true]) ∧ Below w.heap.size w w' := by
  have hsz : (restB s t).size < 4294967281 := by
    rw [Lib.size_eq]
    simp [restB]
    omega
  refine (Tryd.strings_Cut (restB s t) ⟨#[58, 93]⟩ m w hsz hm).mono fun e w' hh => ⟨hh.1.trans ?_, ?_⟩
  · have hc : Lib.cut (restB s t).data.toList [58, 93] = (s.data.toList, t.data.toList, true) := cut_class _ h
    show Ending.returned (.tuple #[.string ⟨(Lib.cut (restB s t).data.toList [58, 93]).1.toArray⟩, .string ⟨(Lib.cut (restB s t).data.toList [58, 93]).2.1.toArray⟩, .bool (Lib.cut (restB s t).data.toList [58, 93]).2.2]) = _
    rw [hc]
  · obtain ⟨n, rfl⟩ := hh.2
    exact below_drewN (Below.refl _ _) n

theorem trim24 (s : ByteArray) (w : World) (hs : s.size ≤ 524288) (h : Small s.data.toList) :
    Calls Tryd.prog 24 #[.string s, .string ⟨#[97, 98, 99, 100, 101, 102, 103, 104, 105, 106, 107, 108, 109, 110, 111, 112, 113, 114, 115, 116, 117, 118, 119, 120, 121, 122]⟩] w fun e w' => e = .returned (.string ⟨#[]⟩) ∧ Below w.heap.size w w' := by
  refine (Any.strings_Trim_laid Tryd.lays160 (by kernel_rfl) s ⟨#[97, 98, 99, 100, 101, 102, 103, 104, 105, 106, 107, 108, 109, 110, 111, 112, 113, 114, 115, 116, 117, 118, 119, 120, 121, 122]⟩ w (by omega) (by decide) (ascii_of_all (by decide))).mono fun e w' hh => ⟨hh.1.trans ?_, hh.2⟩
  show Ending.returned (.string ⟨(Lib.trimS s.data.toList letters).toArray⟩) = _
  rw [trim_small h]

set_option maxRecDepth 100000 in
set_option maxHeartbeats 1000000 in
theorem class17 (s t : ByteArray) (m : Int) (w : World) (hs : s.size ≤ 524288) (ht : t.size ≤ 524288) (h1 : 1 ≤ s.size) (hm : w.cell? ⟨0, 0, none⟩ = some (.int .i64 m)) (h : Small s.data.toList) :
    Calls Tryd.prog 17 #[.string (classB s t)] w fun e w' => e = .returned (.tuple #[.string s, .bool true]) ∧ Below w.heap.size w w' := by
  have HC := cut23 s t m w hs ht hm h
  have HT := fun w => trim24 s w hs h
  have HCC : Hid (Calls Tryd.prog 23 #[.string (restB s t), .string ⟨#[58, 93]⟩] w fun e w' => e = .returned (.tuple #[.string s, .string t, .bool true]) ∧ Below w.heap.size w w') := HC
  have HTT : Hid (∀ w, Calls Tryd.prog 24 #[.string s, .string ⟨#[97, 98, 99, 100, 101, 102, 103, 104, 105, 106, 107, 108, 109, 110, 111, 112, 113, 114, 115, 116, 117, 118, 119, 120, 121, 122]⟩] w fun e w' => e = .returned (.string ⟨#[]⟩) ∧ Below w.heap.size w w') := HT
  clear HC HT hm h
  go_enter Tryd.func17, Tryd.ntmps17
  go_wp2_with fail
  refine (prefix22 s t _).mono ?_
  rintro e w' ⟨rfl, rfl⟩
  go_wp2_with fail
  refine HCC.out.mono ?_
  rintro e w1 ⟨rfl, hb1⟩
  have hne : s.toList.isEmpty = false := by
    rw [Lib.toList_data]
    cases hl : s.data.toList with
    | nil => rw [Lib.size_eq, hl] at h1; simp at h1
    | cons _ _ => rfl
  go_wp2_with fail
  refine (HTT.out _).mono ?_
  rintro e w2 ⟨rfl, hb2⟩
  go_wp2
  go_ret2
  exact ⟨rfl, hb1.trans (hb2.mono hb1.size)⟩

set_option maxHeartbeats 400000 in
theorem class13 (s t : ByteArray) (m : Int) (w : World) (hs : s.size ≤ 524288) (ht : t.size ≤ 524288) (h1 : 1 ≤ s.size) (hm : w.cell? ⟨0, 0, none⟩ = some (.int .i64 m)) (h : Small s.data.toList) :
    Calls Tryd.prog 13 #[.string (classB s t)] w fun e w' => e = .returned (.tuple #[.string s, .bool true]) ∧ Below w.heap.size w w' := by
  have HC : Hid (Calls Tryd.prog 17 #[.string (classB s t)] w fun e w' => e = .returned (.tuple #[.string s, .bool true]) ∧ Below w.heap.size w w') := class17 s t m w hs ht h1 hm h
  clear hm h
  go_enter Tryd.func13, Tryd.ntmps13
  go_wp2_with fail
  refine HC.out.mono ?_
  rintro e w1 ⟨rfl, hb⟩
  go_wp2
  go_ret2
  exact ⟨rfl, hb⟩

theorem small_snoc {s : ByteArray} {k : Nat} (h : k < s.size) (hk : Small (s.data.toList.take k)) (h1 : (97 : Int) ≤ (s[k].toNat : Int)) (h2 : (s[k].toNat : Int) ≤ 122) : Small (s.data.toList.take (k + 1)) := by
  intro c hc
  rw [List.take_succ_eq_append_getElem (by simpa using h), List.mem_append, List.mem_singleton] at hc
  rcases hc with hc | rfl
  · exact hk c hc
  · have e : s.data.toList[k]'(by simpa using h) = s[k] := rfl
    rw [e]
    omega

set_option maxRecDepth 100000 in
set_option maxHeartbeats 1000000 in
theorem law4 (s t : ByteArray) (m : Int) (w : World) (hs : s.size ≤ maxLen) (ht : t.size ≤ maxLen) (hm : w.cell? ⟨0, 0, none⟩ = some (.int .i64 m)) :
    Calls Tryd.prog 4 #[.string s, .string t] w fun e w' => e = .returned (.bool true) ∧ Below w.heap.size w w' := by
  have HM : Hid (w.cell? ⟨0, 0, none⟩ = some (.int .i64 m)) := hm
  have H12 := bytes12 s t w hs ht
  clear hm
  unfold maxLen at hs ht
  by_cases h1 : s.size ≤ 524288
  · by_cases h2 : t.size ≤ 524288
    · go_enter Tryd.func4, Tryd.ntmps4
      go_wp2_with fail
      refine H12.mono ?_
      rintro e w' ⟨r, rfl, hw, _⟩
      have hw' : w = w' := hw.symm
      subst hw'
      clear hw H12
      cases r
      · go_wp2; go_ret; exact ⟨rfl, Below.refl _ _⟩
      by_cases h0 : s.size = 0
      · have e0 : ((s.size : Int) == 0) = true := by rw [h0]; rfl
        clear h0
        go_wp2
        go_ret
        exact ⟨rfl, Below.refl _ _⟩
      · have e0 : ((s.size : Int) == 0) = false := by rw [beq_eq_false_iff_ne]; omega
        have h3 : 1 ≤ s.size := by omega
        clear h0
        go_wp2
        go_loop [5] (fun i => ∃ k : Nat, k ≤ s.size ∧ i = .int .i64 k ∧ Small (s.data.toList.take k)) (fun i => s.size - (intOf i).toNat)
        case atStart => exact ⟨0, Nat.zero_le _, rfl, by simp [Small]⟩
        case round =>
          obtain ⟨k, hk, rfl, hsm⟩ := hrel
          have HS : Hid (Small (s.data.toList.take k)) := hsm
          clear hsm
          by_cases hlt : k < s.size
          · by_cases hlo : (97 : Int) ≤ (s[k].toNat : Int)
            · by_cases hhi : (s[k].toNat : Int) ≤ 122
              · have HS2 : Hid (Small (s.data.toList.take (k + 1))) := small_snoc hlt HS.out hlo hhi
                go_wp2
                go_round
                case rel => exact ⟨k + 1, by omega, by go_num, HS2.out⟩
                case measure => simp [intOf]; omega
              · go_wp2
                go_ret
                exact ⟨rfl, Below.refl _ _⟩
            · go_wp2
              go_ret
              exact ⟨rfl, Below.refl _ _⟩
          · have hfin : Small s.data.toList := by
              have := HS.out
              rwa [List.take_of_length_le (by rw [← Lib.size_eq]; omega)] at this
            have HC : Hid (Calls Tryd.prog 13 #[.string (classB s t)] w fun e w' => e = .returned (.tuple #[.string s, .bool true]) ∧ Below w.heap.size w w') := class13 s t m w h1 h2 h3 HM.out hfin
            clear hfin HS
            go_wp2_with fail
            refine HC.out.mono ?_
            rintro e w1 ⟨rfl, hb⟩
            go_wp2
            go_ret
            exact ⟨rfl, hb⟩
    · go_enter Tryd.func4, Tryd.ntmps4
      go_wp2_with fail
      refine H12.mono ?_
      rintro e w' ⟨r, rfl, hw, _⟩
      have hw' : w = w' := hw.symm
      subst hw'
      clear hw H12
      cases r
      all_goals go_wp2; go_ret; exact ⟨rfl, Below.refl _ _⟩
  · go_enter Tryd.func4, Tryd.ntmps4
    go_wp2_with fail
    refine H12.mono ?_
    rintro e w' ⟨r, rfl, hw, _⟩
    have hw' : w = w' := hw.symm
    subst hw'
    clear hw H12
    cases r
    all_goals go_wp2; go_ret; exact ⟨rfl, Below.refl _ _⟩
end Go.Proofs.Qxb6601456aDoor
