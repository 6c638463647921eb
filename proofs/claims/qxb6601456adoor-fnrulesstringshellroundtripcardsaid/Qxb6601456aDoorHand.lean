import Derived.Test.Qxb6601456aDoorRows
import Derived.WalkKit
import Derived.WalkSpells
import Derived.WalkLawsBesides
import Derived.RegionTactic
import Derived.ChangeAlike
import Derived.BigRegion
import Derived.Deep.OwnRows
import Derived.Lib.Strings
namespace Go.Proofs.Qxb6601456aDoor
open Go.RowKit
theorem Tryd.info38 : (Tryd.prog.info? 38).map (fun i => (i.zero, i.size, i.bytes)) = some (some (.agg #[.bool false, .string ⟨#[]⟩]), 2, 24) := by kernel_rfl

/-- What a slice of rules holds: both fields' cells. -/
def RulesAt (w : World) (a : Option Addr) (len : Nat) (inc : Nat → Bool) (pat : Nat → ByteArray) : Prop :=
  ∀ i, i < len → ∃ b off, a = some ⟨b, off, none⟩ ∧ b < w.heap.size ∧ w.cell? ⟨b, off + i * 2, none⟩ = some (.bool (inc i)) ∧ w.cell? ⟨b, off + i * 2 + 1, none⟩ = some (.string (pat i))

/-- A row of the call's own, filled with the first k rules. -/
def Filled (B N len : Nat) (inc : Nat → Bool) (pat : Nat → ByteArray) (k : Nat) (w wr : World) : Prop :=
  N < wr.heap.size ∧ (∃ f : Nat → Value, wr.rowIs N 38 (len * 2) f ∧ ∀ i, i < k → f (i * 2) = .bool (inc i) ∧ f (i * 2 + 1) = .string (pat i)) ∧ Below B w wr

theorem filled_step {B N len k : Nat} {inc : Nat → Bool} {pat : Nat → ByteArray} {w wr : World} {f : Nat → Value} (hN : N < wr.heap.size) (hB : B ≤ N) (hrow : wr.rowIs N 38 (len * 2) f)
    (hf : ∀ i, i < k → f (i * 2) = .bool (inc i) ∧ f (i * 2 + 1) = .string (pat i)) (hb : Below B w wr) :
    Filled B N len inc pat (k + 1) w ((wr.setCell ⟨N, k * 2, none⟩ (.bool (inc k))).setCell ⟨N, k * 2 + 1, none⟩ (.string (pat k))).drew := by
  refine ⟨by simpa using hN, ⟨_, ((hrow.set (k * 2) _).set (k * 2 + 1) _).drew, fun i hi => ?_⟩, ((hb.setCell hB _).setCell hB _).drew⟩
  by_cases e : i = k
  · subst e
    simp
  · have := hf i (by omega)
    refine ⟨?_, ?_⟩
    · rw [if_neg (by omega), if_neg (by omega)]; exact this.1
    · rw [if_neg (by omega), if_neg (by omega)]; exact this.2

set_option maxHeartbeats 400000 in
theorem toRules8 (a : Addr) (len cap : Nat) (inc : Nat → Bool) (pat : Nat → ByteArray) (w : World) (hl : len ≤ 65536) (hc : RulesAt w (some a) len inc pat) :
    Calls Tryd.prog 8 #[.slice (some a) len cap] w fun e w' => e = .returned (.slice (some ⟨w.heap.size, 0, none⟩) len len) ∧ Filled w.heap.size w.heap.size len inc pat len w w' := by
  obtain ⟨i0, hi, hz0, hz1, hz2⟩ := info_parts Tryd.info38
  have hmk : ∀ w, (Instr.makeSlice 25 (.int .i64 (len : Int)) (.int .i64 (len : Int))).run Tryd.prog w = .ok (.slice (some ⟨w.heap.size, 0, none⟩) len len) (w.alloc (.cells (madeCells #[.bool false, .string ⟨#[]⟩] (len * 2)) 38)) := by
    intro w
    have := run_make (P := Tryd.prog) w 25 38 i0 _ Tryd.underlying25 hi hz0 .i64 .i64 len len (by omega) (by omega) (by rw [hz2]; omega) (by omega)
    rw [hz1] at this
    have e : (Value.agg #[.bool false, .string ⟨#[]⟩]).cells = #[.bool false, .string ⟨#[]⟩] := rfl
    rw [e] at this
    simpa using this
  clear hi hz0 hz1 hz2
  go_enter Tryd.func8, Tryd.ntmps8
  have hnil : ∀ w, (binOp .eql 22 (.slice (some a) len cap) (.slice none 0 0)).run Tryd.prog w = .ok (.bool false) w := fun w => Lib.run_eql_slice_nil w 22 32 _ _ _ _ _ Tryd.underlying22
  go_wp2
  clear hnil hmk
  go_loopw [4] (fun i wr => ∃ k : Nat, k ≤ len ∧ i = .int .i64 k ∧ Filled w.heap.size w.heap.size len inc pat k w wr) (fun i _ => len - (intOf i).toNat)
  case atStart =>
    refine ⟨0, Nat.zero_le _, rfl, ?_, ?_, (Below.refl _ _).alloc (Nat.le_refl _) _⟩
    · simp
    · refine ⟨fun j => (madeCells #[.bool false, .string ⟨#[]⟩] (len * 2))[j]?.getD (.bool false), ?_, fun i hi => by omega⟩
      have := World.rowIs_alloc w (madeCells #[.bool false, .string ⟨#[]⟩] (len * 2)) 38 (fun j => (madeCells #[.bool false, .string ⟨#[]⟩] (len * 2))[j]?.getD (.bool false)) (fun i hi => by simp [hi])
      rwa [size_madeCells] at this
  case round =>
    obtain ⟨k, hk, rfl, hlt0, ⟨f, hrow, hf⟩, hbel⟩ := hrel
    by_cases hlt : k < len
    · obtain ⟨b, off, e, hbl, c0, c1⟩ := hc k hlt
      cases e
      have d0 : wr.cell? ⟨b, off + k * 2, none⟩ = some (.bool (inc k)) := (hbel.cell (p := ⟨b, off + k * 2, none⟩) hbl).trans c0
      have d1 : wr.cell? ⟨b, off + k * 2 + 1, none⟩ = some (.string (pat k)) := (hbel.cell (p := ⟨b, off + k * 2 + 1, none⟩) hbl).trans c1
      have r0 := hrow.cell (i := k * 2) (by omega)
      have r1 := hrow.cell (i := k * 2 + 1) (by omega)
      have z0 := hrow.frozen (k * 2)
      have z1 := hrow.frozen (k * 2 + 1)
      have HR : Hid (wr.rowIs w.heap.size 38 (len * 2) f) := hrow
      have HF : Hid (∀ i, i < k → f (i * 2) = .bool (inc i) ∧ f (i * 2 + 1) = .string (pat i)) := hf
      have HC : Hid (RulesAt w (some ⟨b, off, none⟩) len inc pat) := hc
      clear hrow hf hc c0 c1
      go_wp2
      go_region
      all_goals go_wp2
      go_roundw
      case rel => exact ⟨k + 1, by omega, by go_num, filled_step hlt0 (Nat.le_refl _) HR.out HF.out hbel⟩
      case measure => simp [intOf]; omega
    · have : k = len := by omega
      subst this
      have HF : Hid (Filled w.heap.size w.heap.size k inc pat k w wr) := ⟨hlt0, ⟨f, hrow, hf⟩, hbel⟩
      clear hrow hf hbel
      go_wp2
      go_ret
      exact ⟨rfl, HF.out⟩

set_option maxHeartbeats 400000 in
theorem toRules8_nil (w : World) : Calls Tryd.prog 8 #[.slice none 0 0] w fun e w' => e = .returned (.slice none 0 0) ∧ w' = w := by
  have hnil : ∀ w, (binOp .eql 22 (.slice none 0 0) (.slice none 0 0)).run Tryd.prog w = .ok (.bool true) w := fun w => Lib.run_eql_slice_nil w 22 32 _ _ _ _ _ Tryd.underlying22
  go_enter Tryd.func8, Tryd.ntmps8
  go_wp2
  go_ret
  exact ⟨rfl, rfl⟩
end Go.Proofs.Qxb6601456aDoor
