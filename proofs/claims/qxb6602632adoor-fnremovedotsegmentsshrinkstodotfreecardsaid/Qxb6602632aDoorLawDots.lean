/-
  FnRemoveDotSegmentsShrinksToDotFree (function 5).
-/
import Derived.Test.Qxb6602632aDoorDots
namespace Go.Proofs.Qxb6602632aDoor
open Go.RowKit

/-- A path that begins with no '/': it comes back. -/
theorem rm_plain (p : ByteArray) (h : slashed p.data.toList = false) : rmB p = p := by
  unfold rmB
  cases e : p.data.toList with
  | nil => rw [← txt_of p, e]; rfl
  | cons c l =>
    have hc : c ≠ 47 := by
      rw [e] at h
      simpa [slashed] using h
    rw [rmDots, if_neg hc, ← e, txt_of]

set_option maxHeartbeats 1000000 in
theorem law5_plain (p : ByteArray) (m : Int) (w : World) (hs : p.size ≤ maxLen) (hm : w.cell? ⟨0, 0, none⟩ = some (.int .i64 m)) (h : slashed p.data.toList = false) :
    Calls Tryd.prog 5 #[.string p] w fun e w' => e = .returned (.bool true) ∧ Below w.heap.size w w' := by
  have H10 := bytes10 p w hs
  unfold maxLen at hs
  have H7 : p.size ≤ 1048576 → Hid (Calls Tryd.prog 7 #[.string p] w fun e w' => e = .returned (.string p) ∧ Below w.heap.size w w') := fun hp => by have := rm7 p m w hp hm; rw [rm_plain p h] at this; exact this
  have H11 : p.size ≤ 1048576 → ∀ w1, Hid (Calls Tryd.prog 11 #[.string p] w1 fun e w' => e = .returned (.bool false) ∧ w1 = w') := fun hp w1 => by have := starts11 p w1 (by omega); rw [h] at this; exact this
  clear hm h
  go_enter Tryd.func5, Tryd.ntmps5
  go_wp2_with fail
  refine H10.mono ?_
  rintro e w' ⟨r, rfl, rfl, hr⟩
  clear H10
  cases r
  · clear H7 H11 hr; go_wp2; go_ret; exact ⟨rfl, Below.refl _ _⟩
  · have hp : p.size ≤ 1048576 := hr rfl
    have H7' := H7 hp
    have H11' := H11 hp
    clear H7 H11 hr
    go_wp2_with fail
    refine H7'.out.mono ?_
    rintro e w1 ⟨rfl, hb1⟩
    clear H7'
    have HB1 : Hid (Below w.heap.size w w1) := hb1
    clear hb1
    have H11'' := H11' w1
    clear H11'
    go_wp2_with fail
    refine H11''.out.mono ?_
    rintro e w2 ⟨rfl, rfl⟩
    clear H11''
    go_wp2
    go_ret
    refine ⟨?_, HB1.out⟩
    first | rfl | (simp; done)

set_option maxHeartbeats 1000000 in
theorem law5_slash (p : ByteArray) (s : List UInt8) (m : Int) (w : World) (hs : p.size ≤ maxLen) (hm : w.cell? ⟨0, 0, none⟩ = some (.int .i64 m)) (h : p.data.toList = 47 :: s) :
    Calls Tryd.prog 5 #[.string p] w fun e w' => e = .returned (.bool true) ∧ Below w.heap.size w w' := by
  have H10 := bytes10 p w hs
  unfold maxLen at hs
  obtain ⟨y, hy⟩ := flat_head (keptOf_ne s)
  obtain ⟨o, ho⟩ : ∃ o, o = rmB p := ⟨_, rfl⟩
  have hod : o.data.toList = 47 :: y := by rw [ho, rmB, txt_data, h, rmDots, if_pos rfl, hy]
  have hol : o.size ≤ p.size := by
    rw [Lib.size_eq, Lib.size_eq, hod, h, ← hy]
    exact keptOf_length s
  have hclean : anyDot (parts 47 y) = false := kept_clean s y hy
  have HS : Hid ((o.toList == p.toList) = !anyDot (parts 47 s)) := by
    show (o.toList == p.toList) = _
    rw [Lib.toList_data, Lib.toList_data, hod, h, ← hy]
    exact kept_same s
  have H7 : p.size ≤ 1048576 → Hid (Calls Tryd.prog 7 #[.string p] w fun e w' => e = .returned (.string o) ∧ Below w.heap.size w w') := fun hp => by rw [ho]; exact rm7 p m w hp hm
  have H11 : p.size ≤ 1048576 → ∀ w1, Hid (Calls Tryd.prog 11 #[.string p] w1 fun e w' => e = .returned (.bool true) ∧ w1 = w') := fun hp w1 => by have := starts11 p w1 (by omega); rw [h] at this; exact this
  have H11o : p.size ≤ 1048576 → ∀ w1, Hid (Calls Tryd.prog 11 #[.string o] w1 fun e w' => e = .returned (.bool true) ∧ w1 = w') := fun hp w1 => by have := starts11 o w1 (by omega); rw [hod] at this; exact this
  have H12o : p.size ≤ 1048576 → ∀ w1, Hid (Calls Tryd.prog 12 #[.string o] w1 fun e w' => e = .returned (.bool false) ∧ w1 = w') := fun hp w1 => by have := dots12 o y w1 (by omega) hod; rw [hclean] at this; exact this
  obtain ⟨D, hD⟩ : ∃ D, D = anyDot (parts 47 s) := ⟨_, rfl⟩
  have H12 : p.size ≤ 1048576 → ∀ w1, Hid (Calls Tryd.prog 12 #[.string p] w1 fun e w' => e = .returned (.bool D) ∧ w1 = w') := fun hp w1 => by rw [hD]; exact dots12 p s w1 (by omega) h
  rw [← hD] at HS
  clear hm h hy hod hclean hD ho
  go_enter Tryd.func5, Tryd.ntmps5
  go_wp2_with fail
  refine H10.mono ?_
  rintro e w' ⟨r, rfl, rfl, hr⟩
  clear H10
  cases r
  · clear H7 H11 H11o H12 H12o hr; go_wp2; go_ret; exact ⟨rfl, Below.refl _ _⟩
  · have hp : p.size ≤ 1048576 := hr rfl
    have H7' := H7 hp
    have H11' := H11 hp
    have H11o' := H11o hp
    have H12' := H12 hp
    have H12o' := H12o hp
    clear H7 H11 H11o H12 H12o hr
    go_wp2_with fail
    refine H7'.out.mono ?_
    rintro e w1 ⟨rfl, hb1⟩
    clear H7'
    have HB1 : Hid (Below w.heap.size w w1) := hb1
    clear hb1
    have H11'' := H11' w1
    have H11o'' := H11o' w1
    have H12'' := H12' w1
    have H12o'' := H12o' w1
    clear H11' H11o' H12' H12o'
    go_wp2_with fail
    refine H11''.out.mono ?_
    rintro e w2 ⟨rfl, rfl⟩
    clear H11''
    go_wp2_with fail
    refine H11o''.out.mono ?_
    rintro e w2 ⟨rfl, rfl⟩
    clear H11o''
    go_wp2_with fail
    refine H12o''.out.mono ?_
    rintro e w2 ⟨rfl, rfl⟩
    clear H12o''
    go_wp2_with fail
    refine H12''.out.mono ?_
    rintro e w2 ⟨rfl, rfl⟩
    clear H12''
    go_wp2
    go_ret
    refine ⟨?_, HB1.out⟩
    show Ending.returned (.bool ((o.toList == p.toList) == !D)) = _
    rw [HS.out]
    cases D <;> rfl

theorem law5 (p : ByteArray) (m : Int) (w : World) (hs : p.size ≤ maxLen) (hm : w.cell? ⟨0, 0, none⟩ = some (.int .i64 m)) :
    Calls Tryd.prog 5 #[.string p] w fun e w' => e = .returned (.bool true) ∧ Below w.heap.size w w' := by
  cases e : p.data.toList with
  | nil => exact law5_plain p m w hs hm (by rw [e]; rfl)
  | cons c l =>
    by_cases hc : c = 47
    · subst hc
      exact law5_slash p l m w hs hm e
    · exact law5_plain p m w hs hm (by rw [e]; simpa [slashed] using hc)
end Go.Proofs.Qxb6602632aDoor
