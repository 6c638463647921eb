/-
  FnIDSpellingRoundTrip: the row and the card.
-/
import Derived.Test.Qxb6601663aDoorTie
import Derived.Test.Qxb6601663aDoorCards
import Derived.Test.Qxb6601663aDoorFrame
import Derived.Test.Qxb6601663aDoorLaw
import Derived.ProofKit
import Derived.OpenShut
import Derived.Deep.Slices
import Derived.Lay
import Derived.SevenTiedAt
namespace Go.Proofs.Qxb6601663aDoor
open Go.ChangeShapes Go.WideShapes Go.ChangeAt Go.RowKit

theorem own : ownKnob Tryd.prog.godebug = none := by kernel_rfl
theorem laidOut : laidOutB Tryd.prog = true := by kernel_rfl
theorem Tryd.cells22 : Tryd.prog.cellsOf 22 = 16 := by kernel_rfl
theorem Tryd.cells5 : Tryd.prog.cellsOf 5 = 1 := by kernel_rfl

/-- An array of 16 bytes that can be read holds 16 bytes. -/
theorem open_bytes16 {H : Type} {enc : TypeId × Value → H} {W : World} {fuel : Nat} {cs : List Value} {x : DataW H × List MemPlace} (hl : cs.length = 16)
    (h : DataW.trod enc Tryd.prog W 0 (fun _ => true) true fuel 22 cs = some x) : ∃ bs : List UInt8, bs.length = 16 ∧ cs = bs.map Extern.Stop.cell := by
  obtain ⟨xs, m, _, _, _, hxl, hall⟩ := DataW.trod_array Tryd.underlying22 h
  have each : ∀ i, i < 16 → ∃ b : UInt8, cs[i]? = some (Extern.Stop.cell b) := by
    intro i hi
    have h1 := hall i hi
    rw [Tryd.cells5, Nat.mul_one, List.getElem?_eq_getElem (by omega)] at h1
    obtain ⟨z, hz, _, hw⟩ := DataW.trod_int Tryd.underlying5 h1
    have hz2 : cs[i]? = some (.int .u8 z) := by
      have := congrArg (·[0]?) hz
      simpa [List.getElem?_take, List.getElem?_drop] using this
    have hb : 0 ≤ z ∧ z ≤ 255 := by simpa [Lit.wf, IntKind.min, IntKind.max, IntKind.signed, IntKind.bits] using hw
    refine ⟨UInt8.ofNat z.toNat, ?_⟩
    rw [hz2]
    simp only [Extern.Stop.cell, Option.some.injEq, Value.int.injEq, true_and]
    show z = (((UInt8.ofNat z.toNat).toNat : Nat) : Int)
    rw [UInt8.toNat_ofNat']
    omega
  obtain ⟨f, hf⟩ := Go.Deep.choose_lt each
  refine ⟨(List.range 16).map f, by simp, ?_⟩
  apply List.ext_getElem?
  intro i
  by_cases hi : i < 16
  · rw [hf i hi]
    simp [hi]
  · rw [List.getElem?_eq_none (by omega), List.getElem?_eq_none (by simp; omega)]

set_option maxRecDepth 100000 in
theorem id_lifted (os : Os) (started : os.Started) (H : Type) (enc : TypeId × Value → H) :
    ReturnsInHanded {} Tryd.checked os 3 .any (fun w args => (Rows.fnIDSpellingRoundTripSpec.pre enc Tryd.prog Tryd.f3 [] false w args ∧ laidMetH Tryd.prog Rows.fnIDSpellingRoundTripRow.laid w) ∧ sizedMet enc Tryd.prog Tryd.f3 (OpenSpec.ofChange Rows.fnIDSpellingRoundTripSpec) false w args)
      (Rows.fnIDSpellingRoundTripSpec.post enc Tryd.prog Tryd.f3 false true false false) := by
  refine wrap (C := Tryd.checked) (X := fun w _ => laidMetH Tryd.prog Rows.fnIDSpellingRoundTripRow.laid w) (fun _ _ _ hh h => h.of_heap hh) own started (by kernel_rfl) Tryd.func3
    (ChangeSpec.witness_shaped (enc := enc) (C := Tryd.checked) (os := os) (X := fun w _ => laidMetH Tryd.prog Rows.fnIDSpellingRoundTripRow.laid w) false (World.laidAll Tryd.prog os Rows.fnIDSpellingRoundTripRow.laid) #[.agg #[.int .u8 0, .int .u8 0, .int .u8 0, .int .u8 0, .int .u8 0, .int .u8 0, .int .u8 0, .int .u8 0, .int .u8 0, .int .u8 0, .int .u8 0, .int .u8 0, .int .u8 0, .int .u8 0, .int .u8 0, .int .u8 0], .int .u32 0] 8 (World.laidAll_os _ _ _)
      (World.shaped_of_ZipB (by kernel_rfl) (by kernel_rfl)) (by kernel_rfl) (by kernel_rfl) (by kernel_rfl)
      (by rw [MakeChecks.laidMetH_plain _ _ _ (by kernel_rfl)]; exact laidMet_laidAll _ (by kernel_rfl) (by kernel_rfl))) ?_
  intro W base args ds gs before hval0 hW _ _
  have hval : ∀ (j : Nat) t v, Tryd.f3.params[j]? = some t → args[j]? = some v → Value.okWide Tryd.prog W .any base t v := hval0
  have hW' := hW
  obtain ⟨p, q, hA0, hV, rfl, _, _⟩ := hW
  have hA : DataW.TrodAll enc Tryd.prog W 0 (fun _ => true) true Tryd.f3.params.toList args.toList ds p := hA0
  rw [Tryd.params3] at hA hval
  obtain ⟨v0, v1, d0, d1, p0, p1, rfl, rfl, rfl, h0, h1⟩ := trodAll_two hA
  obtain ⟨rfl, rfl⟩ := trodVars_none hV
  obtain ⟨x, rfl, rfl, rfl, wx⟩ := open_int Tryd.underlying23 (hval 1 23 v1 rfl rfl) h1
  have hx : 0 ≤ x ∧ x ≤ 4294967295 := by simpa [Lit.wf, IntKind.min, IntKind.max, IntKind.signed, IntKind.bits] using wx
  obtain ⟨mask, rfl⟩ := Int.eq_ofNat_of_zero_le hx.1
  obtain ⟨cs, rfl, hsz⟩ : ∃ cs, v0 = .agg cs ∧ cs.size = Tryd.prog.cellsOf 22 := by
    have h2 : ∃ cs, v0 = .agg cs ∧ cs.size = Tryd.prog.cellsOf 22 ∧ Row.okWide Tryd.prog W .any base 22 cs := by
      simpa [Value.okWide, Tryd.underlying22] using hval 0 22 v0 rfl rfl
    obtain ⟨cs, e1, e2, _⟩ := h2
    exact ⟨cs, e1, e2⟩
  rw [Tryd.cells22] at hsz
  simp only [List.append_nil] at hW'
  have hlt : ∀ y ∈ p0, y.block < W.heap.size := fun y hy => by simpa using hW'.lt y (by simpa using hy)
  have hbs : ∃ bs : List UInt8, bs.length = 16 ∧ cs = (bs.map Extern.Stop.cell).toArray := by
    obtain ⟨fuel, hf⟩ := h0
    obtain ⟨bs, e1, e2⟩ := open_bytes16 (cs := cs.toList) (by simpa using hsz) (by simpa [Value.cells] using hf)
    exact ⟨bs, e1, by rw [← e2]⟩
  obtain ⟨bs, hb16, rfl⟩ := hbs
  refine (law3 bs mask W hb16 (by omega)).mono ?_
  rintro e W' ⟨rfl, hb⟩
  exact ⟨_, rfl, _, _, _, [], p0 ++ [], [], hW', trodAll_mk1 (shut_bool Tryd.underlying4 _), trodAll_mk2 (Below.trod laidOut (by kernel_rfl) (of_decide_eq_true (by kernel_rfl)) h0 hb hlt) (shut_int Tryd.underlying23 wx), rfl, hb.frame _, fun h => by cases h⟩

theorem id_holds : Rows.FnIDSpellingRoundTripSaid :=
  OpenClaim.holds_of_wide 3 Tryd.f3 rfl rfl rfl rfl rfl rfl rfl ⟨rfl, rfl, rfl, rfl, rfl⟩ rfl rfl rfl rfl rfl (by kernel_rfl) Tryd.func3 (by kernel_rfl)
    (of_decide_eq_true (by kernel_rfl)) (by unfold Func.isWrapper; first | (rw [if_pos (by decide +kernel)]; kernel_rfl) | (rw [if_neg (by decide +kernel)]; exact ⟨rfl, rfl⟩))
    (fun os started H enc _ => id_lifted os started H enc)

theorem id_card : Rows.FnIDSpellingRoundTripCardSaid :=
  Claim7.holds_tied_plain_at .later [] [.data, .pinned, .pinned] true Rows.fnIDSpellingRoundTripCard.stood.harness false id_holds (fun _ h => by cases h) (by kernel_rfl) (fun _ h => by cases h) fnIDSpellingRoundTrip_row_tie rfl ⟨rfl, rfl⟩ (by kernel_rfl) rfl
    (fun f fn hf hfn => by
      obtain rfl : f = 3 := Option.some.inj ((show Tryd.prog.funcNamed Rows.fnIDSpellingRoundTripRow.func = some 3 by kernel_rfl).symm.trans hf) |>.symm
      obtain rfl : fn = Tryd.f3 := (Option.some.inj (Tryd.func3.symm.trans hfn)).symm
      exact ⟨by kernel_rfl, fun j t ht => by
        rw [Tryd.params3] at ht
        have hm : t ∈ [22, 23] := by simpa using Array.mem_of_getElem? ht
        have hall : ([22, 23].all fun u => !Tryd.prog.wantsStandIn u) = true := by kernel_rfl
        exact (show Tryd.prog.wantsStandIn t = false by simpa using List.all_eq_true.1 hall t hm)⟩)
    (by kernel_rfl)
end Go.Proofs.Qxb6601663aDoor
