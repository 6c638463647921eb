/-
  FnRemoveDotSegmentsMatchesRFCLoop (function 3).
-/
import Derived.Test.Qxb6602632aDoorRfc
namespace Go.Proofs.Qxb6602632aDoor
open Go.RowKit

theorem rfc8 (p : ByteArray) (w : World) (hp : p.size ≤ 1048576) : Calls Tryd.prog 8 #[.string p] w fun e w' => e = .returned (.string (rmB p)) ∧ Below w.heap.size w w' := by
  unfold rmB
  cases e : p.data.toList with
  | nil =>
    have e2 : txt (rmDots []) = p := by rw [← txt_of p, e]; rfl
    rw [e2]
    refine rfc8_plain p w hp fun hlt => ?_
    rw [Lib.size_eq, e] at hlt
    cases hlt
  | cons c l =>
    have hc0 : ∀ hlt : 0 < p.size, p[0] = c := fun _ => by
      obtain ⟨_, hc⟩ := byte_from (i := 0) (L := c :: l) (by rw [List.drop_zero]; exact e) 0 c rfl
      exact hc
    by_cases hc : c = 47
    · subst hc
      have e2 : rmDots (47 :: l) = flat 47 (keptOf l) := by rw [rmDots, if_pos rfl]
      rw [e2]
      exact rfc8_slash p l w hp e
    · have e2 : txt (rmDots (c :: l)) = p := by rw [rmDots, if_neg hc, ← e, txt_of]
      rw [e2]
      exact rfc8_plain p w hp fun hlt => by rw [hc0 hlt]; exact hc

set_option maxHeartbeats 1000000 in
theorem law3 (p : ByteArray) (m : Int) (w : World) (hs : p.size ≤ maxLen) (hm : w.cell? ⟨0, 0, none⟩ = some (.int .i64 m)) :
    Calls Tryd.prog 3 #[.string p] w fun e w' => e = .returned (.bool true) ∧ Below w.heap.size w w' := by
  have H6 := bytes6 p w hs
  unfold maxLen at hs
  have H7 : p.size ≤ 1048576 → Hid (Calls Tryd.prog 7 #[.string p] w fun e w' => e = .returned (.string (rmB p)) ∧ Below w.heap.size w w') := fun h => rm7 p m w h hm
  clear hm
  obtain ⟨o, ho⟩ : ∃ o, o = rmB p := ⟨_, rfl⟩
  have H8 : p.size ≤ 1048576 → ∀ w1, Hid (Calls Tryd.prog 8 #[.string p] w1 fun e w' => e = .returned (.string o) ∧ Below w1.heap.size w1 w') := fun h w1 => by rw [ho]; exact rfc8 p w1 h
  rw [← ho] at H7
  clear ho
  go_enter Tryd.func3, Tryd.ntmps3
  go_wp2_with fail
  refine H6.mono ?_
  rintro e w' ⟨r, rfl, rfl, hr⟩
  clear H6
  cases r
  · clear H7 H8 hr; go_wp2; go_ret; exact ⟨rfl, Below.refl _ _⟩
  · have hp : p.size ≤ 1048576 := hr rfl
    have H7' := H7 hp
    have H8' := H8 hp
    clear H7 H8 hr
    go_wp2_with fail
    refine H7'.out.mono ?_
    rintro e w1 ⟨rfl, hb1⟩
    clear H7'
    have HB1 : Hid (Below w.heap.size w w1) := hb1
    clear hb1
    have H8'' := H8' w1
    clear H8'
    go_wp2_with fail
    refine H8''.out.mono ?_
    rintro e w2 ⟨rfl, hb2⟩
    clear H8''
    have HB2 : Hid (Below w1.heap.size w1 w2) := hb2
    clear hb2
    go_wp2
    go_ret
    refine ⟨?_, HB1.out.trans ?_⟩
    · first | rfl | (simp; done)
    · exact HB2.out.mono HB1.out.size
end Go.Proofs.Qxb6602632aDoor
