/-
  The law's walk (function 3).
-/
import Derived.Test.Qxb6601663aDoorDecode
import Derived.Deep.RegionHeld3
import Derived.Deep.MidRow
namespace Go.Proofs.Qxb6601663aDoor
open Go.RowKit

theorem Tryd.size22 : (Tryd.prog.info? 22).map (·.size) = some 16 := by kernel_rfl
theorem Tryd.size5 (w : World) : (sizeOf 5).run Tryd.prog w = .ok 1 w := by kernel_rfl

theorem spellS (bs : List UInt8) (mask : Nat) (w : World) (hb : bs.length = 16) (hm : mask < 4294967296) :
    Calls Tryd.prog 7 #[.agg (bs.map Extern.Stop.cell).toArray, .int .u32 (mask : Int)] w fun e w' => e = .returned (.string (spellB bs mask)) ∧ Below w.heap.size w w' := spell7 bs mask w hb hm
theorem spellS0 (bs : List UInt8) (w : World) (hb : bs.length = 16) :
    Calls Tryd.prog 7 #[.agg (bs.map Extern.Stop.cell).toArray, .int .u32 0] w fun e w' => e = .returned (.string (spellB bs 0)) ∧ Below w.heap.size w w' := spell7 bs 0 w hb (by omega)

theorem same_arr (bs : List UInt8) (hb : bs.length = 16) (w : World) : (Op.equalIn 10000 22 (.agg (bs.map Extern.Stop.cell).toArray) (.agg (bs.map Extern.Stop.cell).toArray)).run Tryd.prog w = .ok true w := by
  rw [run_equalIn_bytes w 9998 22 5 16 Tryd.underlying22 Tryd.underlying5 Tryd.size5 bs bs hb hb]
  simp

theorem range_of_row {w : World} {N : Nat} {cs : List Value} (h : w.heap[N]? = some (.cells cs.toArray 22 (0, 0))) : w.rangeAt N 0 cs := by
  intro j v hv
  rw [Nat.zero_add, cell_of_row w N j cs.toArray 22 (0, 0) h]
  simpa using hv
theorem range_keep {N : Nat} {cs : List Value} {W w5 : World} (hr : W.rangeAt N 0 cs) (hN : N < W.heap.size) (hb : Below W.heap.size W w5) : w5.rangeAt N 0 cs := by
  intro j v hv
  rw [hb.cell (p := ⟨N, 0 + j, none⟩) hN]
  exact hr j v hv

set_option maxRecDepth 100000 in
set_option maxHeartbeats 1000000 in
theorem law3 (bs : List UInt8) (mask : Nat) (w : World) (hb : bs.length = 16) (hm : mask < 4294967296) :
    Calls Tryd.prog 3 #[.agg (bs.map Extern.Stop.cell).toArray, .int .u32 (mask : Int)] w fun e w' => e = .returned (.bool true) ∧ Below w.heap.size w w' := by
  have HL : Hid (bs.length = 16) := hb
  have h16 : (bs.map Extern.Stop.cell).toArray.size = 16 := by simp [hb]
  have hi22 : (Tryd.prog.info? 22).map (·.size) = some (bs.map Extern.Stop.cell).toArray.size := by rw [h16]; exact Tryd.size22
  have HI22 : Hid ((Tryd.prog.info? 22).map (·.size) = some (bs.map Extern.Stop.cell).toArray.size) := hi22
  have heql := same_arr bs hb
  clear hb h16 hi22
  obtain ⟨W0, hW0⟩ : ∃ W0, W0 = w.alloc (.cells (bs.map Extern.Stop.cell).toArray 22) := ⟨_, rfl⟩
  have hrow0 : W0.heap[w.heap.size]? = some (.cells (bs.map Extern.Stop.cell).toArray 22 (0, 0)) := by rw [hW0]; exact heap_alloc_new w _
  have hB0 : Below w.heap.size w W0 := by rw [hW0]; exact (Below.refl _ _).alloc (Nat.le_refl _) _
  have hN0 : w.heap.size < W0.heap.size := by rw [hW0]; simp
  have HW0 : Hid (W0 = w.alloc (.cells (bs.map Extern.Stop.cell).toArray 22)) := hW0
  have HR0 : Hid (W0.heap[w.heap.size]? = some (.cells (bs.map Extern.Stop.cell).toArray 22 (0, 0))) := hrow0
  clear hrow0 hW0
  go_enter Tryd.func3, Tryd.ntmps3
  go_wp2_with (first
    | (refine wpList_load_row rfl 22 (.tmp 2) rfl w.heap.size rfl 22 _ (0, 0) _ (heap_alloc_new w _) Tryd.underlying22 rfl HI22.out ?_))
  rw [← HW0.out]
  refine (spellS0 bs W0 HL.out).mono ?_
  rintro e w1 ⟨rfl, hb1⟩
  have HR1 : Hid (w1.heap[w.heap.size]? = some (.cells (bs.map Extern.Stop.cell).toArray 22 (0, 0))) := (hb1.block _ hN0).trans HR0.out
  go_wp2_with (first
    | (refine wpList_load_row rfl 22 (.tmp 2) rfl w.heap.size rfl 22 _ (0, 0) _ HR1.out Tryd.underlying22 rfl HI22.out ?_))
  refine (spellS bs mask w1 HL.out hm).mono ?_
  rintro e w2 ⟨rfl, hb2⟩
  have hB2 : Below W0.heap.size W0 w2 := hb1.trans (hb2.mono hb1.size)
  go_wp2_with fail
  refine (valid8 _ _ (spellB_ok bs 0)).mono ?_
  rintro e w' ⟨rfl, rfl⟩
  go_wp2_with fail
  refine (valid8 _ _ (spellB_ok bs mask)).mono ?_
  rintro e w' ⟨rfl, rfl⟩
  go_wp2_with fail
  refine (canon9 bs 0 w2).mono ?_
  rintro e w3 ⟨rfl, hb3⟩
  have hB3 : Below W0.heap.size W0 w3 := hB2.trans (hb3.mono hB2.size)
  go_wp2_with fail
  refine (canon9 bs mask w3).mono ?_
  rintro e w4 ⟨rfl, hb4⟩
  have hB4 : Below W0.heap.size W0 w4 := hB3.trans (hb4.mono hB3.size)
  have hr4 : w4.rangeAt w.heap.size 0 (bs.map Extern.Stop.cell) := range_of_row ((hB4.block _ hN0).trans HR0.out)
  have HB4 : Hid (Below W0.heap.size W0 w4) := hB4
  clear hb1 hb2 hb3 hb4 hB2 hB3 HR1 hB4
  have hu := Tryd.underlying22
  have hi22' : (Tryd.prog.info? 22).map (·.size) = some (bs.map Extern.Stop.cell).length := by rw [List.length_map, HL.out]; exact Tryd.size22
  have hone : ∀ v ∈ bs.map Extern.Stop.cell, v.oneCell' = true := by
    intro v hv
    simp only [List.mem_map] at hv
    obtain ⟨b, _, rfl⟩ := hv
    rfl
  have hN4 : w.heap.size < w4.heap.size := Nat.lt_of_lt_of_le hN0 HB4.out.size
  go_wp2
  go_region_held3 (fun w' => w'.rangeAt w.heap.size 0 (bs.map Extern.Stop.cell)) (first | assumption | go_keep_ranges)
    ((go_at_call 10; refine (decode10 bs 0 _ HL.out).mono ?_; rintro e w5 ⟨rfl, hb5⟩; have hr5 : w5.rangeAt w.heap.size 0 (bs.map Extern.Stop.cell) := range_keep (by simpa using hr4) (by simpa using hN4) hb5))
  have hN5 : w.heap.size < w5.heap.size := Nat.lt_of_lt_of_le hN4 (by simpa using hb5.size)
  have HB5 : Hid (Below W0.heap.size W0 w5) := HB4.out.trans (Below.trans (Below.refl _ w4).drew (hb5.mono (by simpa using HB4.out.size)))
  clear hr4 hb5 hN4
  go_wp2
  go_region_held3 (fun w' => w'.rangeAt w.heap.size 0 (bs.map Extern.Stop.cell)) (first | assumption | go_keep_ranges)
    ((go_at_call 10; refine (decode10 bs mask _ HL.out).mono ?_; rintro e w6 ⟨rfl, hb6⟩; have hr6 : w6.rangeAt w.heap.size 0 (bs.map Extern.Stop.cell) := range_keep (by simpa using hr5) (by simpa using hN5) hb6))
  have HB6 : Hid (Below W0.heap.size W0 w6) := HB5.out.trans (Below.trans (Below.refl _ w5).drew (hb6.mono (by simpa using HB5.out.size)))
  clear hr5 hb6 hN5
  go_wp2
  go_ret
  exact ⟨rfl, hB0.trans (HB6.out.mono (Nat.le_of_lt hN0))⟩
end Go.Proofs.Qxb6601663aDoor
