/-
  The walk of (Rules).String (function 9): the words, joined.
-/
import Derived.Test.Qxb6601456aDoorShelf
import Derived.Test.Qxb6601456aDoorHand
import Derived.Test.Qxb6601456aDoorWords
import Derived.Test.Qxb6601456aDoorGuards
import Derived.Lib.SmallJoins
namespace Go.Proofs.Qxb6601456aDoor
open Go.RowKit

theorem Tryd.info9' : (Tryd.prog.info? 9).map (fun i => (i.zero, i.size, i.bytes)) = some (some (.string ⟨#[]⟩), 1, 16) := by kernel_rfl

/-- A pattern as it stands inside its quote. -/
def escB (p : ByteArray) : ByteArray := ⟨(esc p.data.toList).toArray⟩
theorem escB_size (p : ByteArray) : (escB p).size ≤ 4 * p.size := by
  have := esc_length p.data.toList
  rw [← Lib.size_eq] at this
  rw [Lib.size_eq]
  simpa [escB] using this

theorem repl15 (p : ByteArray) (m : Int) (w : World) (hp : p.size ≤ 1048576) (hm : w.cell? ⟨0, 0, none⟩ = some (.int .i64 m)) :
    Calls Tryd.prog 15 #[.string p, .string ⟨#[39]⟩, .string ⟨#[39, 92, 39, 39]⟩] w fun e w' => e = .returned (.string (escB p)) ∧ Below w.heap.size w w' := by
  have hc : Lib.countB p ⟨#[39]⟩ ≤ p.size := Lib.countB_le ⟨#[39]⟩ (by decide) p.size p (Nat.le_refl _)
  have h := Tryd.strings_ReplaceAll p ⟨#[39]⟩ ⟨#[39, 92, 39, 39]⟩ m w (by omega) hm (by decide) (by have : (⟨#[39, 92, 39, 39]⟩ : ByteArray).size = 4 := rfl; rw [this]; omega)
  refine h.mono fun e w' hh => ⟨hh.1.trans ?_, hh.2⟩
  show Ending.returned (.string ⟨(Lib.replaceAll p.data.toList [39] [39, 92, 39, 39]).toArray⟩) = _
  rw [replaceAll_esc]; rfl

/-- One rule as it is written. -/
def wordB (inc : Bool) (p : ByteArray) : ByteArray := ⟨(wordOf inc p.data.toList).toArray⟩

theorem wordB_eq (inc : Bool) (p : ByteArray) {o : ByteArray} (ho : o.data.toList = optOf inc) : o ++ ⟨#[39]⟩ ++ escB p ++ ⟨#[39]⟩ = wordB inc p := by
  have e : ∀ a b : ByteArray, a.data.toList = b.data.toList → a = b := fun a b h => by
    rw [← Lib.mk_data a, ← Lib.mk_data b, h]
  apply e
  rw [Joins.data_append, Joins.data_append, Joins.data_append, ho]
  rfl

/-- The words that are laid so far. -/
def Laid9 (M len : Nat) (inc : Nat → Bool) (pat : Nat → ByteArray) (k : Nat) (w wr : World) : Prop :=
  M < wr.heap.size ∧ (∃ f : Nat → Value, wr.rowIs M 9 len f ∧ ∀ i, i < k → f i = .string (wordB (inc i) (pat i))) ∧ Below M w wr

/-- All that is written. -/
def outL (len : Nat) (inc : Nat → Bool) (pat : Nat → ByteArray) : List UInt8 := Lib.join ((List.range len).map fun i => wordOf (inc i) (pat i).data.toList) [32]
def outB (len : Nat) (inc : Nat → Bool) (pat : Nat → ByteArray) : ByteArray := ⟨(outL len inc pat).toArray⟩

theorem laid9_start (len : Nat) (inc : Nat → Bool) (pat : Nat → ByteArray) (w : World) : Laid9 w.heap.size len inc pat 0 w (w.alloc (.cells (madeCells #[.string ⟨#[]⟩] len) 9)) :=
  ⟨by simp, ⟨_, World.rowIs_made w _ len 9, fun i hi => by omega⟩, (Below.refl _ _).alloc (Nat.le_refl _) _⟩

theorem laid9_step {M len k : Nat} {inc : Nat → Bool} {pat : Nat → ByteArray} {w wr w2 : World} {o : Obj} {f : Nat → Value} (hM : M < wr.heap.size) (hrow : wr.rowIs M 9 len f)
    (hf : ∀ i, i < k → f i = .string (wordB (inc i) (pat i))) (hb : Below M w wr) (h2 : Below (wr.heap.size + 1) (wr.alloc o) w2) {x : ByteArray} (hx : x = wordB (inc k) (pat k)) :
    Laid9 M len inc pat (k + 1) w (w2.setCell ⟨M, k, none⟩ (.string x)) := by
  have hs := h2.size
  simp at hs
  have hrow2 : w2.rowIs M 9 len f := (hrow.alloc o).of_block (h2.block M (by omega))
  refine ⟨by simp; omega, ⟨_, hrow2.set k _, fun i hi => ?_⟩, ?_⟩
  · by_cases e : i = k
    · subst e; simp [hx]
    · rw [if_neg e]; exact hf i (by omega)
  · exact ((hb.alloc (Nat.le_of_lt hM) o).trans (h2.mono (by omega))).setCell (Nat.le_refl _) _

theorem join16 {M len : Nat} {inc : Nat → Bool} {pat : Nat → ByteArray} {wr : World} {f : Nat → Value} (hl : len ≤ 65536) (hM : M < wr.heap.size) (hrow : wr.rowIs M 9 len f)
    (hf : ∀ i, i < len → f i = .string (wordB (inc i) (pat i))) (hlen : (outL len inc pat).length ≤ 140737488355328) :
    Calls Tryd.prog 16 #[.slice (some ⟨M, 0, none⟩) len len, .string ⟨#[32]⟩] wr fun e w' => e = .returned (.string (outB len inc pat)) ∧ Below wr.heap.size wr w' := by
  have ej : Lib.join (((List.range len).map fun i => wordB (inc i) (pat i)).map (·.data.toList)) [32] = outL len inc pat := by rw [List.map_map]; rfl
  have h := Tryd.strings_Join M 0 len ((List.range len).map fun i => wordB (inc i) (pat i)) ⟨#[32]⟩ wr (fun j x hj => by
      have hj' : j < len := by
        have := (List.getElem?_eq_some_iff.1 hj).1
        simpa using this
      rw [List.getElem?_map, List.getElem?_range hj', Option.map_some, Option.some.injEq] at hj
      rw [Nat.zero_add, hrow.cell hj', hf j hj', hj]) hM (by simp; omega) (by simp) (by
      show (Lib.join (((List.range len).map fun i => wordB (inc i) (pat i)).map (·.data.toList)) [32]).length ≤ _
      rw [ej]; exact hlen)
  rw [List.length_map, List.length_range] at h
  refine h.mono fun e w' hh => ⟨hh.1.trans ?_, hh.2⟩
  show Ending.returned (.string ⟨(Lib.join (((List.range len).map fun i => wordB (inc i) (pat i)).map (·.data.toList)) [32]).toArray⟩) = _
  rw [ej]; rfl

set_option maxRecDepth 100000 in
set_option maxHeartbeats 1000000 in
theorem string9 (b off len cap : Nat) (inc : Nat → Bool) (pat : Nat → ByteArray) (m : Int) (w : World) (hl : len ≤ 65536) (hl1 : 1 ≤ len) (hps : ∀ i, i < len → (pat i).size ≤ 1048576) (hc : RulesAt w (some ⟨b, off, none⟩) len inc pat)
    (hm : w.cell? ⟨0, 0, none⟩ = some (.int .i64 m)) (hlen : Hid ((outL len inc pat).length ≤ 140737488355328)) :
    Calls Tryd.prog 9 #[.slice (some ⟨b, off, none⟩) len cap] w fun e w' => e = .returned (.string (outB len inc pat)) ∧ Below w.heap.size w w' := by
  have h0 : 0 < w.heap.size := World.block_lt_of_cell? w ⟨0, 0, none⟩ hm
  have hmk := run_make_row' (P := Tryd.prog) 28 9 (.string ⟨#[]⟩) 16 Tryd.underlying28 Tryd.info9' rfl .i64 .i64 len (by omega) (by omega)
  have HM : Hid (w.cell? ⟨0, 0, none⟩ = some (.int .i64 m)) := hm
  clear hm
  have hl0 : ((len : Int) == 0) = false := by rw [beq_eq_false_iff_ne]; omega
  go_enter Tryd.func9, Tryd.ntmps9
  go_wp2
  clear hmk
  go_loopw [15] (fun i wr => ∃ k : Nat, k ≤ len ∧ i = .int .i64 k ∧ Laid9 w.heap.size len inc pat k w wr) (fun i _ => len - (intOf i).toNat)
  case atStart => exact ⟨0, Nat.zero_le _, rfl, laid9_start len inc pat w⟩
  case round =>
    obtain ⟨k, hk, rfl, hM, ⟨f, hrow, hf⟩, hb⟩ := hrel
    by_cases hlt : k < len
    · obtain ⟨b', off', e, hbl, c0, c1⟩ := hc k hlt
      cases e
      have d0 : wr.cell? ⟨b, off + k * 2, none⟩ = some (.bool (inc k)) := (hb.cell (p := ⟨b, off + k * 2, none⟩) hbl).trans c0
      have d1 : wr.cell? ⟨b, off + k * 2 + 1, none⟩ = some (.string (pat k)) := (hb.cell (p := ⟨b, off + k * 2 + 1, none⟩) hbl).trans c1
      have hp := hps k hlt
      have hes := escB_size (pat k)
      have HR : Hid (wr.rowIs w.heap.size 9 len f) := hrow
      have HF : Hid (∀ i, i < k → f i = .string (wordB (inc i) (pat i))) := hf
      have hm1 : ∀ o, (wr.alloc o).cell? ⟨0, 0, none⟩ = some (.int .i64 m) := fun o => ((hb.alloc (Nat.le_of_lt hM) o).cell (p := ⟨0, 0, none⟩) h0).trans HM.out
      have hm2 := fun o => repl15 (pat k) m (wr.alloc o) hp (hm1 o)
      have HQ : Hid (∀ o, Calls Tryd.prog 15 #[.string (pat k), .string ⟨#[39]⟩, .string ⟨#[39, 92, 39, 39]⟩] (wr.alloc o) fun e w' => e = .returned (.string (escB (pat k))) ∧ Below (wr.alloc o).heap.size (wr.alloc o) w') := hm2
      clear hc hps c0 c1 hrow hf hm1 hm2
      have r0 := HR.out.cell (i := k) hlt
      have z0 := HR.out.frozen k
      cases hinc : inc k
      all_goals
        rw [hinc] at d0
        have HI : Hid (inc k = _) := hinc
        clear hinc
        go_wp2_with fail
        refine (HQ.out _).mono ?_
        rintro e w2 ⟨rfl, h2⟩
        simp only [World.size_alloc] at h2
        have r1 : w2.cell? ⟨w.heap.size, k, none⟩ = some (f k) := (h2.cell (p := ⟨w.heap.size, k, none⟩) (by simp; omega)).trans ((World.cell?_alloc_lt wr _ ⟨w.heap.size, k, none⟩ hM).trans r0)
        have z1 : w2.frozen? ⟨w.heap.size, k, none⟩ = false := (h2.frozen (p := ⟨w.heap.size, k, none⟩) (by simp; omega)).trans ((World.frozen?_alloc_old wr _ ⟨w.heap.size, k, none⟩ (Nat.ne_of_lt hM)).trans z0)
        clear r0 z0 d0 d1 HQ
        go_wp2
        go_roundw
        case rel => exact ⟨k + 1, by omega, by go_num, laid9_step hM HR.out HF.out hb h2 (by rw [HI.out]; exact wordB_eq _ _ rfl)⟩
        case measure => simp [intOf]; omega
    · have : k = len := by omega
      subst this
      have HJ := join16 hl hM hrow hf hlen.out
      have HK : Hid (Below w.heap.size w wr) := hb
      clear hb hrow hf
      go_wp2_with fail
      refine HJ.mono ?_
      rintro e w2 ⟨rfl, h2⟩
      go_wp2
      go_ret
      exact ⟨rfl, HK.out.trans (h2.mono (Nat.le_of_lt hM))⟩

set_option maxHeartbeats 400000 in
theorem string9_none (a : Option Addr) (cap : Nat) (w : World) :
    Calls Tryd.prog 9 #[.slice a 0 cap] w fun e w' => e = .returned (.string ⟨#[110, 111, 32, 102, 105, 108, 116, 101, 114, 115]⟩) ∧ w' = w := by
  go_enter Tryd.func9, Tryd.ntmps9
  go_wp2
  go_ret
  exact ⟨rfl, rfl⟩
end Go.Proofs.Qxb6601456aDoor
