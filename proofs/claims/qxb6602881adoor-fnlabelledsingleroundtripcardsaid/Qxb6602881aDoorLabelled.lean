/-
  The walk of labelled (functions 14, 6).
-/
import Derived.Test.Qxb6602881aDoorGuards
import Derived.BigRegion
import Derived.Deep.DrawnRows
import Derived.Deep.RegionHeld3
import Derived.Deep.AppendLies
import Derived.Laws.Pointers
import Derived.OwnWalk
import Derived.StillTactics
namespace Go.Proofs.Qxb6602881aDoor
open Go.RowKit

theorem Tryd.info32 : (Tryd.prog.info? 32).map (fun i => (i.zero, i.size, i.bytes)) = some (some (.agg #[.string ⟨#[]⟩, .slice none 0 0]), 2, 40) := by kernel_rfl

/-- What labelled hands: nil, or one snapshot. -/
def Lab (a b : ByteArray) (w : World) (e : Ending) (w' : World) : Prop :=
  Below w.heap.size w w' ∧ ((a.data.toList.contains 64 = false ∧ e = .returned (.slice none 0 0)) ∨
    (a.data.toList.contains 64 = true ∧ ∃ g cap lb : Nat, e = .returned (.slice (some ⟨g, 0, none⟩) 1 cap) ∧ w'.cell? ⟨g, 0, none⟩ = some (.string a) ∧
      w'.cell? ⟨g, 1, none⟩ = some (.slice (some ⟨lb, 0, none⟩) (parts 44 b.data.toList).length (parts 44 b.data.toList).length) ∧
      ∀ j x, (parts 44 b.data.toList)[j]? = some x → w'.cell? ⟨lb, j, none⟩ = some (.string (txt x))))

theorem new_second (w : World) (o o2 : Obj) : ((w.alloc o).alloc o2).drew.heap[w.heap.size + 1]? = some o2 := by
  have h := heap_alloc_new (w.alloc o) o2
  rw [show (w.alloc o).heap.size = w.heap.size + 1 by simp] at h
  exact h

/-- What the region has made. -/
theorem lab_made {a b : ByteArray} {w W1 w1 : World} {gg cap : Nat} {x y : Value} (hR : a.data.toList.contains 64 = true) (hB : Below w.heap.size w W1) (hs : w.heap.size ≤ W1.heap.size)
    (hown : w1.ownsRow W1.heap.size 32 2 (.slice (some ⟨gg, 0, none⟩) (0 + 1) cap) (0 + 1) ([] ++ [.string a, .slice (some ⟨W1.heap.size, 0, none⟩) (parts 44 b.data.toList).length (parts 44 b.data.toList).length]))
    (hgrow : ((W1.alloc (Obj.cells (scells (parts 44 b.data.toList)).toArray 9)).alloc (Obj.cells #[x, y] 32)).drew.grownBy w1 (Value.slice none 0 0).ownBlock) :
    Lab a b w (.returned (.slice (some ⟨gg, 0, none⟩) 1 cap)) w1 := by
  refine ⟨?_, .inr ⟨hR, gg, cap, W1.heap.size, rfl, hown.cellAt 0 (by omega), hown.cellAt 1 (by omega), ?_⟩⟩
  · have h1 : Below w.heap.size w ((W1.alloc (Obj.cells (scells (parts 44 b.data.toList)).toArray 9)).alloc (Obj.cells #[x, y] 32)).drew :=
      ((hB.alloc hs _).alloc (by simp; omega) _).drew
    exact h1.grown hgrow (by simp; omega) (fun k hk => by cases hk)
  · intro j s hj
    rw [hgrow.cell_far _ (by simp; omega) (by simp [Value.ownBlock])]
    have h1 : (W1.alloc (Obj.cells (scells (parts 44 b.data.toList)).toArray 9)).cell? ⟨W1.heap.size, j, none⟩ = some (.string (txt s)) := by
      rw [cell_of_row _ _ j _ 9 (0, 0) (heap_alloc_new W1 _)]
      simp [scells, hj]
    rw [← h1]
    show World.cell? (((W1.alloc _).alloc _)) _ = _
    exact ((Below.refl (W1.alloc (Obj.cells (scells (parts 44 b.data.toList)).toArray 9)).heap.size _).alloc (Nat.le_refl _) _).cell (by simp)

set_option maxRecDepth 100000 in
set_option maxHeartbeats 2000000 in
theorem labelled14 (a b : ByteArray) (blk : Nat) (m : Int) (w : World) (hb : b.size ≤ 1048576)
    (h0 : w.cell? ⟨blk, 0, none⟩ = some (.string a)) (h1 : w.cell? ⟨blk, 1, none⟩ = some (.string b)) (hm : w.cell? ⟨0, 0, none⟩ = some (.int .i64 m)) :
    Calls Tryd.prog 14 #[.slice (some ⟨blk, 0, none⟩) 1 1] w (Lab a b w) := by
  obtain ⟨i0, hi0, hz0, hz1, hz2⟩ := info_parts Tryd.info32
  have l0 := World.block_lt_of_cell? w _ h0
  have lm := World.block_lt_of_cell? w _ hm
  go_enter Tryd.func14, Tryd.ntmps14
  go_wp2
  go_loopw [3, 8] (fun v iv wr => (iv = .int .i64 0 ∧ v = .slice none 0 0 ∧ wr = w) ∨ (iv = .int .i64 1 ∧ Lab a b w (.returned v) wr)) (fun _ iv _ => 1 - (intOf iv).toNat)
  case atStart => exact .inl ⟨rfl, rfl, rfl⟩
  case round =>
    rcases hrel with ⟨rfl, rfl, rfl⟩ | ⟨rfl, hL⟩
    · obtain ⟨R, hR⟩ : ∃ R, R = a.data.toList.contains 64 := ⟨_, rfl⟩
      have HR : Hid (R = a.data.toList.contains 64) := hR
      clear hR
      have H16 : ∀ w1, Hid (Calls Tryd.prog 16 #[.string a, .string ⟨#[64]⟩] w1 fun e w' => e = .returned (.bool R) ∧ w1 = w') := fun w1 => by rw [HR.out]; exact contains16 a w1
      go_wp2_with fail
      refine (H16 _).out.mono ?_
      rintro e w1 ⟨rfl, rfl⟩
      clear H16
      obtain ⟨W1, hW1⟩ : ∃ W1, W1 = wr.alloc (Obj.cells #[Value.string a, Value.string b] 26) := ⟨_, rfl⟩
      have hs1 : W1.heap.size = wr.heap.size + 1 := by rw [hW1]; simp
      have k0 : W1.cell? ⟨wr.heap.size, 0, none⟩ = some (.string a) := by rw [hW1]; simp
      have k1 : W1.cell? ⟨wr.heap.size, 1, none⟩ = some (.string b) := by rw [hW1]; simp
      have km : W1.cell? ⟨0, 0, none⟩ = some (.int .i64 m) := by rw [hW1, ← hm]; exact ((Below.refl _ _).alloc (Nat.le_refl _) _).cell lm
      have HB1 : Hid (Below wr.heap.size wr W1) := by show Below _ _ _; rw [hW1]; exact (Below.refl _ _).alloc (Nat.le_refl _) _
      rw [← hW1]
      clear hW1
      cases R
      · go_wp2
        go_roundw
        case rel => exact .inr ⟨by go_num, HB1.out, .inl ⟨HR.out.symm, rfl⟩⟩
        case measure => simp [intOf]
      · have H17 := fun w2 (h2 : w2.cell? ⟨0, 0, none⟩ = some (.int .i64 m)) => split17 b m w2 hb h2
        go_wp2_with fail
        obtain ⟨H, hH⟩ : ∃ H, H = wr.heap.size := ⟨_, rfl⟩
        rw [← hH] at k0 k1
        rw [show (Value.pointer (some { block := wr.heap.size, off := 0 })) = Value.pointer (some ⟨H, 0, none⟩) by rw [hH]]
        have e0 := World.new_ne W1 _ k0
        have em := World.new_ne W1 _ km
        have HS1 : Hid (W1.heap.size = wr.heap.size + 1 ∧ H = wr.heap.size) := ⟨hs1, hH⟩
        have lH : H < W1.heap.size := by omega
        have hLl : (parts 44 b.data.toList).length = (scells (parts 44 b.data.toList)).length := by simp [scells]
        obtain ⟨L, hL⟩ : ∃ L, L = (parts 44 b.data.toList).length := ⟨_, rfl⟩
        obtain ⟨cs, hcs⟩ : ∃ cs, cs = (scells (parts 44 b.data.toList)) := ⟨_, rfl⟩
        rw [← hL, ← hcs] at H17
        have HLC : Hid (L = (parts 44 b.data.toList).length ∧ cs = (scells (parts 44 b.data.toList))) := ⟨hL, hcs⟩
        clear hs1 hH hLl hL hcs h0 h1 hm l0 lm
        go_region_held3 (fun w' => w'.cell? ⟨H, 0, none⟩ = some (.string a) ∧ w'.cell? ⟨H, 1, none⟩ = some (.string b) ∧ w'.cell? ⟨0, 0, none⟩ = some (.int .i64 m))
          (first
            | go_keep
            | (go_split_ands
               refine ⟨?_, ?_, ?_⟩
               · (rw [hgrow.cell_far _ (by simp; omega) (by simp [Value.ownBlock])]; assumption)
               · (rw [hgrow.cell_far _ (by simp; omega) (by simp [Value.ownBlock])]; assumption)
               · (rw [hgrow.cell_far _ (by first | (simp; done) | (simp; omega)) (by simp [Value.ownBlock])]; assumption)))
          (first
            | (go_at_call 17; refine (H17 _ ?_).mono ?_; (simp [*]); rintro e w' ⟨rfl, rfl⟩)
            | (refine step_append_lies _ (by rfl) _ _ _ (by rfl) W1.heap.size 32 i0 _ 2 40 Tryd.underlying23 hi0 hz0 hz1 hz2 rfl (by omega) (.slice none 0 0) 0 [] (by rfl) (World.ownsRow_nil _ _ _ _)
                ⟨W1.heap.size + 1, 0, none⟩ 1 1 [.string a, .slice (some ⟨W1.heap.size, 0, none⟩) L L] (by rfl) (by rfl) (World.news_of_block (cs := #[.string a, .slice (some ⟨W1.heap.size, 0, none⟩) L L]) (t := 32) (fr := (0, 0)) (new_second W1 _ _)) (by simp [Value.oneCell'])
                (by omega) (by unfold maxLen; omega) (by omega) (by first | (simp; done) | (simp; omega)) (W1.heap.size + 2) (by simp) ?_; intro gg cap w1 hown1 hgrow hat hlt))
        have HO : Hid (_) := hown1
        have HG : Hid (_) := hgrow
        clear hown1 hgrow k0 k1 km H17 hi0 hz0 hz1 hz2
        go_wp2
        go_roundw
        case rel =>
          refine .inr ⟨by go_num, ?_⟩
          obtain ⟨rfl, rfl⟩ := HLC.out
          exact lab_made HR.out.symm HB1.out (by have := HS1.out; omega) HO.out HG.out
        case measure => simp [intOf]
    · have HL : Hid (_) := hL
      clear hL
      go_wp2
      go_ret
      exact HL.out

set_option maxHeartbeats 400000 in
theorem labelled6 (a b : ByteArray) (blk : Nat) (m : Int) (w : World) (hb : b.size ≤ 1048576)
    (h0 : w.cell? ⟨blk, 0, none⟩ = some (.string a)) (h1 : w.cell? ⟨blk, 1, none⟩ = some (.string b)) (hm : w.cell? ⟨0, 0, none⟩ = some (.int .i64 m)) :
    Calls Tryd.prog 6 #[.slice (some ⟨blk, 0, none⟩) 1 1] w (Lab a b w) := by
  have H := labelled14 a b blk m w hb h0 h1 hm
  clear hm h0 h1
  go_enter Tryd.func6, Tryd.ntmps6
  go_wp2_with fail
  refine H.mono ?_
  rintro e w' hL
  have HL : Hid (Lab a b w e w') := hL
  obtain ⟨_, ⟨_, rfl⟩ | ⟨_, g, cap, lb, rfl, _⟩⟩ := hL
  all_goals
    go_wp2
    go_ret
    exact HL.out
end Go.Proofs.Qxb6602881aDoor
