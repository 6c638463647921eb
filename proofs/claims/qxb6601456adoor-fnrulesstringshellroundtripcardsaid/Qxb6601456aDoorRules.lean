/-
  FnRulesStringShellRoundTrip: the row and the card.
-/
import Derived.Test.Qxb6601456aDoorTie
import Derived.Test.Qxb6601456aDoorCards
import Derived.Test.Qxb6601456aDoorFrame
import Derived.Test.Qxb6601456aDoorLaw
import Derived.Deep.SlicePairs
import Derived.ProofKit
import Derived.Lay
import Derived.SevenTiedAt
namespace Go.Proofs.Qxb6601456aDoor
open Go.ChangeShapes Go.WideShapes Go.ChangeAt Go.RowKit Go.Deep

theorem own : ownKnob Tryd.prog.godebug = none := by kernel_rfl
theorem laidOut : laidOutB Tryd.prog = true := by kernel_rfl
theorem Tryd.cells32 : Tryd.prog.cellsOf 32 = 2 := by kernel_rfl
theorem Tryd.cells4 : Tryd.prog.cellsOf 4 = 1 := by kernel_rfl
theorem Tryd.cells9 : Tryd.prog.cellsOf 9 = 1 := by kernel_rfl

set_option maxRecDepth 100000 in
theorem rules_lifted (os : Os) (started : os.Started) (H : Type) (enc : TypeId × Value → H) :
    ReturnsInHanded {} Tryd.checked os 3 .any (fun w args => (Rows.fnRulesStringShellRoundTripSpec.pre enc Tryd.prog Tryd.f3 [] false w args ∧ laidMetH Tryd.prog Rows.fnRulesStringShellRoundTripRow.laid w) ∧ sizedMet enc Tryd.prog Tryd.f3 (OpenSpec.ofChange Rows.fnRulesStringShellRoundTripSpec) false w args)
      (Rows.fnRulesStringShellRoundTripSpec.post enc Tryd.prog Tryd.f3 false true false false) := by
  refine wrap (C := Tryd.checked) (X := fun w _ => laidMetH Tryd.prog Rows.fnRulesStringShellRoundTripRow.laid w) (fun _ _ _ hh h => h.of_heap hh) own started (by kernel_rfl) Tryd.func3
    (ChangeSpec.witness_shaped (enc := enc) (C := Tryd.checked) (os := os) (X := fun w _ => laidMetH Tryd.prog Rows.fnRulesStringShellRoundTripRow.laid w) false (World.laidAll Tryd.prog os Rows.fnRulesStringShellRoundTripRow.laid) #[.slice none 0 0] 8 (World.laidAll_os _ _ _)
      (World.shaped_of_ZipB (by kernel_rfl) (by kernel_rfl)) (by kernel_rfl) (by kernel_rfl) (by kernel_rfl)
      (by rw [MakeChecks.laidMetH_plain _ _ _ (by kernel_rfl)]; exact laidMet_laidAll _ (by kernel_rfl) (by kernel_rfl))) ?_
  intro W base args ds gs before hval0 hW _ hsh
  have hval : ∀ (j : Nat) t v, Tryd.f3.params[j]? = some t → args[j]? = some v → Value.okWide Tryd.prog W .any base t v := hval0
  have hW' := hW
  obtain ⟨p, q, hA0, hV, rfl, _, _⟩ := hW
  have hA : DataW.TrodAll enc Tryd.prog W 0 (fun _ => true) true Tryd.f3.params.toList args.toList ds p := hA0
  rw [Tryd.params3] at hA hval
  obtain ⟨v0, d0, rfl, rfl, h0⟩ := trodAll_one hA
  obtain ⟨rfl, rfl⟩ := trodVars_none hV
  simp only [List.append_nil] at hW'
  have hlt : ∀ x ∈ p, x.block < W.heap.size := fun x hx => by simpa using hW'.lt x hx
  obtain ⟨m, hm⟩ : ∃ m, W.cell? ⟨0, 0, none⟩ = some (.int .i64 m) := Tryd.laysM155.s1_3 W hsh
  have back : ∀ W', Below W.heap.size W W' → DataW.Trod enc Tryd.prog W' 0 (fun b => decide (b < W.heap.size)) true 22 v0 d0 p := fun W' hb => Below.trod laidOut (by kernel_rfl) (of_decide_eq_true (by kernel_rfl)) h0 hb hlt
  have fin : ∀ (e : Ending) (W' : World), e = .returned (.bool true) ∧ Below W.heap.size W W' → ∃ v, e = .returned v ∧ Rows.fnRulesStringShellRoundTripSpec.post enc Tryd.prog Tryd.f3 false true false false W #[v0] v W' := by
    rintro e W' ⟨rfl, hb⟩
    exact ⟨_, rfl, _, _, _, [], p, [], hW', trodAll_mk1 (shut_bool Tryd.underlying4 _), trodAll_mk1 (back W' hb), rfl, hb.frame _, fun h => by cases h⟩
  obtain ⟨fuel, hf⟩ := h0
  obtain ⟨a0, len, cap, rfl⟩ := okWide_slice Tryd.underlying22 (hval 0 22 v0 rfl rfl)
  rcases open_slice_pairs Tryd.underlying22 Tryd.underlying32 Tryd.cells32 rfl rfl Tryd.cells4 Tryd.cells9 hf with ⟨hcs, _⟩ | ⟨a, len', cap', mm, n, V0, V1, D0, D1, P0, P1, hcs, _, hl, hmx, hmm, _, hx⟩
  · have e : Value.slice a0 len cap = .slice none 0 0 := by simpa [Value.cells] using hcs
    cases e
    exact (law3_nil W).mono fin
  · have e : Value.slice a0 len cap = .slice (some a) len' cap' := by simpa [Value.cells] using hcs
    cases e
    have hlm : len ≤ mm := by rw [hmm]; split <;> omega
    have hx' : ∀ i, i < len → ∃ (x : Bool) (s : ByteArray), s.size ≤ maxLen ∧ a.spot = none ∧ W.cell? ⟨a.block, a.off + i * 2, none⟩ = some (.bool x) ∧ W.cell? ⟨a.block, a.off + i * 2 + 1, none⟩ = some (.string s) := by
      intro i hi
      obtain ⟨x, hx0, _⟩ := DataW.trod_bool Tryd.underlying4 (hx i (by omega)).2.2.1
      obtain ⟨s, hs0, _, hs1⟩ := DataW.trod_string Tryd.underlying9 (hx i (by omega)).2.2.2
      have hsp : a.spot = none := by
        have := World.cell?_spot (hx 0 (by omega)).1
        simpa [Addr.add] using this
      obtain ⟨b, off, spot⟩ := a
      cases hsp
      have h1 := (hx i (by omega)).1
      have h2 := (hx i (by omega)).2.1
      rw [Addr.add_lit] at h1 h2
      simp at hx0 hs0
      rw [hx0] at h1
      rw [hs0] at h2
      exact ⟨x, s, hs1, rfl, h1, by rw [Nat.add_assoc]; exact h2⟩
    obtain ⟨inc, hinc⟩ := choose_lt hx'
    obtain ⟨pat, hpat⟩ := choose_lt hinc
    exact (law3_some a len cap inc pat m W (Nat.le_trans hl hmx) (fun i hi => ⟨by have := (hpat i hi).1; unfold maxLen at this; omega, a.block, a.off, by rw [← (hpat i hi).2.1], (hpat i hi).2.2.2⟩)
      (fun i hi => ⟨a.block, a.off, by rw [← (hpat i hi).2.1], World.block_lt_of_cell? W ⟨a.block, a.off + i * 2, none⟩ (hpat i hi).2.2.1, (hpat i hi).2.2⟩) hm).mono fin

theorem rules_holds : Rows.FnRulesStringShellRoundTripSaid :=
  OpenClaim.holds_of_wide 3 Tryd.f3 rfl rfl rfl rfl rfl rfl rfl ⟨rfl, rfl, rfl, rfl, rfl⟩ rfl rfl rfl rfl rfl (by kernel_rfl) Tryd.func3 (by kernel_rfl)
    (of_decide_eq_true (by kernel_rfl)) (by unfold Func.isWrapper; first | (rw [if_pos (by decide +kernel)]; kernel_rfl) | (rw [if_neg (by decide +kernel)]; exact ⟨rfl, rfl⟩))
    (fun os started H enc _ => rules_lifted os started H enc)

theorem rules_card : Rows.FnRulesStringShellRoundTripCardSaid :=
  Claim7.holds_tied_plain_at .later [] [.data, .pinned] true Rows.fnRulesStringShellRoundTripCard.stood.harness false rules_holds (fun _ h => by cases h) (by kernel_rfl) (fun _ h => by cases h) fnRulesStringShellRoundTrip_row_tie rfl ⟨rfl, rfl⟩ (by kernel_rfl) rfl
    (fun f fn hf hfn => by
      obtain rfl : f = 3 := Option.some.inj ((show Tryd.prog.funcNamed Rows.fnRulesStringShellRoundTripRow.func = some 3 by kernel_rfl).symm.trans hf) |>.symm
      obtain rfl : fn = Tryd.f3 := (Option.some.inj (Tryd.func3.symm.trans hfn)).symm
      exact ⟨by kernel_rfl, fun j t ht => by
        rw [Tryd.params3] at ht
        have hm : t ∈ [22] := by simpa using Array.mem_of_getElem? ht
        have hall : ([22].all fun u => !Tryd.prog.wantsStandIn u) = true := by kernel_rfl
        exact (show Tryd.prog.wantsStandIn t = false by simpa using List.all_eq_true.1 hall t hm)⟩)
    (by kernel_rfl)

end Go.Proofs.Qxb6601456aDoor
