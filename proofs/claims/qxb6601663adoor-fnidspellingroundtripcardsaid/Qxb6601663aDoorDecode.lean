import Derived.Test.Qxb6601663aDoorLower
import Derived.Deep.OwnRows
import Derived.RegionTactic
import Derived.Deep.RegionWith
import Derived.BigRegion
import Derived.Deep.DrawnRows
namespace Go.Proofs.Qxb6601663aDoor
open Go.RowKit
attribute [local go_sem ↓] Go.wp_at_zero Go.wp_at_succ

/-- The decoder's memory at a round's head. -/
def DecInv (bs : List UInt8) (k : Nat) (w wr : World) : Prop :=
  w.heap.size + 2 ≤ wr.heap.size ∧ (∃ cs, wr.heap[w.heap.size + 1]? = some (.cells cs 22 (0, 0)) ∧ cs.size = 16 ∧ ∀ i, i < k → cs[i]? = some (Extern.Stop.cell (bs.getD i 0))) ∧
    (∃ old, wr.heap[w.heap.size]? = some (.cells old 22 (0, 0)) ∧ old.size = 16) ∧ Below w.heap.size w wr

theorem spell_parts (bs : List UInt8) (mask : Nat) : ∀ n k, k < n → ∃ rest, spellK bs mask n = spellK bs mask k ++ (spellAt mask k (bs.getD k 0) ++ rest)
  | 0, k, h => by omega
  | n + 1, k, h => by
    rcases Nat.lt_or_ge k n with h1 | h1
    · obtain ⟨rest, hr⟩ := spell_parts bs mask n k h1
      exact ⟨rest ++ spellAt mask n (bs.getD n 0), by rw [spellK, hr]; simp⟩
    · obtain rfl : k = n := by omega
      exact ⟨[], by rw [spellK]; simp⟩

theorem getElem_of_list {s : ByteArray} {a r : List UInt8} {c : UInt8} (h : s.data.toList = a ++ c :: r) : ∃ hl : a.length < s.size, s[a.length] = c := by
  have hl : a.length < s.size := by rw [Lib.size_eq, h]; simp
  refine ⟨hl, ?_⟩
  rw [← byte_at s a.length hl, h]
  simp

theorem at_plain (bs : List UInt8) (mask k : Nat) (hk : k < 16) (hy : ¬ (k = 4 ∨ k = 6 ∨ k = 8 ∨ k = 10)) (L : Nat) (hL : L = (spellK bs mask k).length) :
    ∃ (h0 : L < (spellB bs mask).size) (h1 : L + 1 < (spellB bs mask).size), (spellB bs mask)[L] = hexV ((bs.getD k 0).toNat / 16) (bit mask (2 * k)) ∧ (spellB bs mask)[L + 1] = hexV ((bs.getD k 0).toNat % 16) (bit mask (2 * k + 1)) ∧
      L + 2 = (spellK bs mask (k + 1)).length := by
  subst hL
  obtain ⟨rest, hr⟩ := spell_parts bs mask 16 k hk
  have e : (spellB bs mask).data.toList = spellK bs mask 16 := rfl
  have e2 : (spellK bs mask (k + 1)).length = (spellK bs mask k).length + 2 := by rw [spellK, spellAt, if_neg hy]; simp
  rw [spellAt, if_neg hy] at hr
  obtain ⟨h0, g0⟩ := getElem_of_list (s := spellB bs mask) (a := spellK bs mask k) (c := hexV ((bs.getD k 0).toNat / 16) (bit mask (2 * k))) (r := hexV ((bs.getD k 0).toNat % 16) (bit mask (2 * k + 1)) :: rest) (by rw [e, hr]; simp)
  obtain ⟨h1, g1⟩ := getElem_of_list (s := spellB bs mask) (a := spellK bs mask k ++ [hexV ((bs.getD k 0).toNat / 16) (bit mask (2 * k))]) (c := hexV ((bs.getD k 0).toNat % 16) (bit mask (2 * k + 1))) (r := rest) (by rw [e, hr]; simp)
  simp only [List.length_append, List.length_singleton] at h1 g1
  exact ⟨h0, h1, g0, g1, e2.symm⟩

theorem at_hyphen (bs : List UInt8) (mask k : Nat) (hk : k < 16) (hy : k = 4 ∨ k = 6 ∨ k = 8 ∨ k = 10) (L : Nat) (hL : L = (spellK bs mask k).length) :
    ∃ (h0 : L < (spellB bs mask).size) (h1 : L + 1 < (spellB bs mask).size) (h2 : L + 1 + 1 < (spellB bs mask).size), (spellB bs mask)[L] = 45 ∧ (spellB bs mask)[L + 1] = hexV ((bs.getD k 0).toNat / 16) (bit mask (2 * k)) ∧
      (spellB bs mask)[L + 1 + 1] = hexV ((bs.getD k 0).toNat % 16) (bit mask (2 * k + 1)) ∧ L + 1 + 2 = (spellK bs mask (k + 1)).length := by
  subst hL
  obtain ⟨rest, hr⟩ := spell_parts bs mask 16 k hk
  have e : (spellB bs mask).data.toList = spellK bs mask 16 := rfl
  have e2 : (spellK bs mask (k + 1)).length = (spellK bs mask k).length + 3 := by rw [spellK, spellAt, if_pos hy]; simp
  rw [spellAt, if_pos hy] at hr
  obtain ⟨h0, g0⟩ := getElem_of_list (s := spellB bs mask) (a := spellK bs mask k) (c := 45) (r := hexV ((bs.getD k 0).toNat / 16) (bit mask (2 * k)) :: hexV ((bs.getD k 0).toNat % 16) (bit mask (2 * k + 1)) :: rest) (by rw [e, hr]; simp)
  obtain ⟨h1, g1⟩ := getElem_of_list (s := spellB bs mask) (a := spellK bs mask k ++ [45]) (c := hexV ((bs.getD k 0).toNat / 16) (bit mask (2 * k))) (r := hexV ((bs.getD k 0).toNat % 16) (bit mask (2 * k + 1)) :: rest) (by rw [e, hr]; simp)
  obtain ⟨h2, g2⟩ := getElem_of_list (s := spellB bs mask) (a := spellK bs mask k ++ [45, hexV ((bs.getD k 0).toNat / 16) (bit mask (2 * k))]) (c := hexV ((bs.getD k 0).toNat % 16) (bit mask (2 * k + 1))) (r := rest) (by rw [e, hr]; simp)
  simp only [List.length_append, List.length_cons, List.length_nil] at h1 g1 h2 g2
  exact ⟨h0, h1, h2, g0, g1, g2, e2.symm⟩

/-- What a digit's byte stands for. -/
def unhexV (c : UInt8) : Int := if 48 ≤ c.toNat ∧ c.toNat ≤ 57 then (c.toNat : Int) - 48 else if 97 ≤ c.toNat ∧ c.toNat ≤ 102 then (c.toNat : Int) - 87 else if 65 ≤ c.toNat ∧ c.toNat ≤ 70 then (c.toNat : Int) - 55 else 0

set_option maxHeartbeats 400000 in
theorem unhex_any (c : UInt8) (w : World) : Calls Tryd.prog 19 #[.int .u8 (c.toNat : Int)] w fun e w' => e = .returned (.int .u8 (unhexV c)) ∧ w = w' := by
  unfold unhexV
  by_cases h1 : 48 ≤ c.toNat ∧ c.toNat ≤ 57
  · rw [if_pos h1]; exact unhex19 _ _ w (by omega)
  rw [if_neg h1]
  by_cases h2 : 97 ≤ c.toNat ∧ c.toNat ≤ 102
  · rw [if_pos h2]; exact unhex19 _ _ w (by omega)
  rw [if_neg h2]
  by_cases h3 : 65 ≤ c.toNat ∧ c.toNat ≤ 70
  · rw [if_pos h3]; exact unhex19 _ _ w (by omega)
  rw [if_neg h3]
  go_enter Tryd.func19, Tryd.ntmps19
  go_wp2
  all_goals go_ret
  all_goals exact ⟨rfl, rfl⟩
theorem unhexV_hex (v : Nat) (up : Bool) (h : v < 16) : unhexV (hexV v up) = v := by
  unfold unhexV
  have e := hexV_val v up h
  by_cases h10 : v < 10
  · rw [if_pos h10] at e
    rw [e, if_pos (by omega)]; omega
  · rw [if_neg h10] at e
    cases up
    · simp only [Bool.false_eq_true, if_false] at e
      rw [e, if_neg (by omega), if_pos (by omega)]; omega
    · simp only [if_true] at e
      rw [e, if_neg (by omega), if_neg (by omega), if_pos (by omega)]; omega

theorem hex_not_dash (v : Nat) (up : Bool) (h : v < 16) : (((hexV v up).toNat : Int) == 45) = false := by
  rw [beq_eq_false_iff_ne, hexV_val v up h]
  split
  · omega
  · split <;> omega

theorem or_join (x y : Int) (hx0 : 0 ≤ x) (hx : x < 16) (hy0 : 0 ≤ y) (hy : y < 16) : bits .or .u8 (IntKind.u8.wrap (x * 16)) y = x * 16 + y := by
  rw [IntKind.wrap_u8, Int.emod_eq_of_lt (by omega) (by omega)]
  exact bits_join .u8 8 (by decide) wraps_u8 4 (x * 16) y (by omega) (by omega) (by omega) (by omega) (by omega) (by omega)

theorem dec_step {bs : List UInt8} {k : Nat} {w wr : World} (h : DecInv bs k w wr) (hk : k < 16) {x y : Int} {b : UInt8} (hb : b = bs.getD k 0) (hx : x = ((b.toNat / 16 : Nat) : Int)) (hy : y = ((b.toNat % 16 : Nat) : Int)) :
    DecInv bs (k + 1) w (wr.setCell ⟨w.heap.size + 1, k, none⟩ (.int .u8 (bits .or .u8 (IntKind.u8.wrap (x * 16)) y))).drew := by
  obtain ⟨hsz, ⟨cs, hcs, hcsz, hcf⟩, ⟨old, hold, holds⟩, hbel⟩ := h
  have h16 := div16 b
  rw [or_join x y (by omega) (by omega) (by omega) (by omega)]
  have e : x * 16 + y = (b.toNat : Int) := by omega
  rw [e]
  refine ⟨by simpa using hsz, ⟨_, heap_setCell_same wr _ k cs 22 _ hcs, by simp [hcsz], fun i hi => ?_⟩, ⟨old, ?_, holds⟩, (hbel.setCell (by simp) _).drew⟩
  · rw [Array.getElem?_setIfInBounds]
    by_cases e2 : k = i
    · subst e2
      rw [if_pos rfl, if_pos (by omega), hb]
      rfl
    · rw [if_neg e2]
      exact hcf i (by omega)
  · show (wr.setCell ⟨w.heap.size + 1, k, none⟩ _).heap[w.heap.size]? = _
    rw [heap_setCell_other _ _ _ _ (by simp)]
    exact hold

theorem jnum2 (L : Nat) : Value.int .i64 ((L : Int) + 2) = .int .i64 ((L + 2 : Nat) : Int) := by rw [Int.natCast_add]; rfl
theorem jnum3 (L : Nat) : Value.int .i64 ((L : Int) + 1 + 2) = .int .i64 ((L + 1 + 2 : Nat) : Int) := by rw [Int.natCast_add, Int.natCast_add]; rfl
theorem cells_all {bs : List UInt8} : (bs.map Extern.Stop.cell).toArray.all (·.oneCell') = true := by
  rw [Array.all_eq_true_iff_forall_mem]
  intro v hv
  simp only [List.mem_toArray, List.mem_map] at hv
  obtain ⟨b, _, rfl⟩ := hv
  rfl
theorem dec_done {bs : List UInt8} {cs : Array Value} (hl : bs.length = 16) (hs : cs.size = 16) (h : ∀ i, i < 16 → cs[i]? = some (Extern.Stop.cell (bs.getD i 0))) : cs = (bs.map Extern.Stop.cell).toArray := by
  apply Array.ext_getElem?
  intro i
  by_cases hi : i < 16
  · rw [h i hi]
    simp [hl, hi]
  · rw [Array.getElem?_eq_none (by omega), Array.getElem?_eq_none (by simp; omega)]

set_option maxRecDepth 100000 in
set_option maxHeartbeats 1000000 in
theorem decode10_gen (bs : List UInt8) (mask : Nat) (s : ByteArray) (w : World) (HSP : Hid (s = spellB bs mask)) (hb : bs.length = 16) :
    Calls Tryd.prog 10 #[.string s] w fun e w' => e = .returned (.agg (bs.map Extern.Stop.cell).toArray) ∧ Below w.heap.size w w' := by
  have HL : Hid (bs.length = 16) := hb
  have hs36 : s.size ≤ 36 := by have := (spellB_ok bs mask).1; rw [← Lib.size_eq, ← HSP.out] at this; omega
  clear hb
  go_enter Tryd.func10, Tryd.ntmps10
  go_wp2
  go_loopw [4, 5] (fun j i wr => ∃ k : Nat, k ≤ 16 ∧ i = .int .i64 k ∧ j = .int .i64 ((spellK bs mask k).length : Nat) ∧ DecInv bs k w wr) (fun _ i _ => 16 - (intOf i).toNat)
  case atStart =>
    refine ⟨0, by omega, rfl, rfl, by simp, ⟨_, heap_alloc2_new _ _ _, rfl, fun i hi => by omega⟩, ⟨_, heap_alloc2_old _ _ _, rfl⟩, ?_⟩
    exact ((Below.refl _ _).alloc (Nat.le_refl _) _).alloc (by simp) _
  case round =>
    obtain ⟨k, hk, rfl, rfl, hinv⟩ := hrel
    have HI : Hid (DecInv bs k w wr) := hinv
    obtain ⟨hsz, ⟨cs, hcs, hcsz, hcf⟩, hold, hbel⟩ := hinv
    by_cases hlt : k < 16
    · obtain ⟨L, hL⟩ : ∃ L, L = (spellK bs mask k).length := ⟨_, rfl⟩
      rw [← hL]
      have hcl : ∃ x, wr.cell? ⟨w.heap.size + 1, k, none⟩ = some x := by rw [cell_of_row wr _ k cs 22 (0, 0) hcs]; exact ⟨cs[k], by simp [hcsz, hlt]⟩
      obtain ⟨x, hx⟩ := hcl
      have hfz := frozen_of_row wr (w.heap.size + 1) k cs 22 hcs
      obtain ⟨b, hbb⟩ : ∃ b, b = bs.getD k 0 := ⟨_, rfl⟩
      have hb16 := div16 b
      have hm16 := mod16 b
      by_cases hy : k = 4 ∨ k = 6 ∨ k = 8 ∨ k = 10
      · have hat := at_hyphen bs mask k hlt hy L hL
        rw [← HSP.out] at hat
        obtain ⟨h0, h1, h2, g0, g1, g1', g2⟩ := hat
        rw [← hbb] at g1 g1'
        have u0 : unhexV s[L + 1] = ((b.toNat / 16 : Nat) : Int) := by rw [g1]; exact unhexV_hex _ _ hb16
        have u1 : unhexV s[L + 1 + 1] = ((b.toNat % 16 : Nat) : Int) := by rw [g1']; exact unhexV_hex _ _ hm16
        have hwr : IntKind.i64.wrap ((L : Int) + 1 + 1) = (L : Int) + 1 + 1 := by rw [IntKind.wrap_i64]; omega
        have htn : ((L : Int) + 1).toNat = L + 1 := by omega
        have htn2 : ((L : Int) + 1 + 1).toNat = L + 1 + 1 := by omega
        have HU0 : Hid (unhexV s[L + 1] = ((b.toNat / 16 : Nat) : Int)) := u0
        have HU1 : Hid (unhexV s[L + 1 + 1] = ((b.toNat % 16 : Nat) : Int)) := u1
        have H2 : Hid (L + 1 + 2 = _) := g2
        have m45 : (s[L].toNat : Int) ≤ 45 := by rw [g0]; decide
        have m45' : 45 ≤ (s[L].toNat : Int) := by rw [g0]; decide
        have HB : Hid (b = bs.getD k 0) := hbb
        have hwl : (L : Int) + 1 < (s.size : Int) := by omega
        have hwl2 : (L : Int) + 1 + 1 < (s.size : Int) := by omega
        clear hcs hcsz hcf hold hbel g0 g1 g1' g2 hbb hL hy u0 u1
        go_wp2
        go_region_with (go_at_call 19; refine (unhex_any _ _).mono ?_; rintro e w' ⟨rfl, rfl⟩)
        all_goals
          go_wp2
          go_roundw
          case rel =>
            refine ⟨k + 1, by omega, by go_num, ?_, dec_step HI.out hlt HB.out HU0.out HU1.out⟩
            rw [← H2.out]
            exact jnum3 L
          case measure => simp [intOf]; omega
      · have hat := at_plain bs mask k hlt hy L hL
        rw [← HSP.out] at hat
        obtain ⟨h0, h1, g0, g1, g2⟩ := hat
        rw [← hbb] at g0 g1
        have u0 : unhexV s[L] = ((b.toNat / 16 : Nat) : Int) := by rw [g0]; exact unhexV_hex _ _ hb16
        have u1 : unhexV s[L + 1] = ((b.toNat % 16 : Nat) : Int) := by rw [g1]; exact unhexV_hex _ _ hm16
        have hwr : IntKind.i64.wrap ((L : Int) + 1) = (L : Int) + 1 := by rw [IntKind.wrap_i64]; omega
        have htn : ((L : Int) + 1).toNat = L + 1 := by omega
        have HU0 : Hid (unhexV s[L] = ((b.toNat / 16 : Nat) : Int)) := u0
        have HU1 : Hid (unhexV s[L + 1] = ((b.toNat % 16 : Nat) : Int)) := u1
        have H2 : Hid (L + 2 = _) := g2
        have n45 : ((s[L].toNat : Int) == 45) = false := by rw [g0]; exact hex_not_dash _ _ hb16
        have HB : Hid (b = bs.getD k 0) := hbb
        have HLL : Hid (L = (spellK bs mask k).length) := hL
        have hwl : (L : Int) + 1 < (s.size : Int) := by omega
        clear hcs hcsz hcf hold hbel g0 g1 g2 hbb hL hy u0 u1
        go_wp2
        go_region_with (go_at_call 19; refine (unhex_any _ _).mono ?_; rintro e w' ⟨rfl, rfl⟩)
        all_goals
          go_wp2
          go_roundw
          case rel =>
            refine ⟨k + 1, by omega, by go_num, ?_, dec_step HI.out hlt HB.out HU0.out HU1.out⟩
            rw [← H2.out]
            exact jnum2 L
          case measure => simp [intOf]; omega
    · have hk16 : k = 16 := by omega
      subst hk16
      obtain ⟨old, hold, holds⟩ := hold
      have ecs : cs = (bs.map Extern.Stop.cell).toArray := dec_done HL.out hcsz hcf
      subst ecs
      have hi22 : (Tryd.prog.info? 22).map (·.size) = some 16 := by kernel_rfl
      have h16 : (bs.map Extern.Stop.cell).toArray.size = 16 := hcsz
      have Hcs : Hid (wr.heap[w.heap.size + 1]? = some (.cells (bs.map Extern.Stop.cell).toArray 22 (0, 0))) := hcs
      have Hold : Hid (wr.heap[w.heap.size]? = some (.cells old 22 (0, 0))) := hold
      have HB : Hid (Below w.heap.size w wr) := hbel
      clear hcs hold hbel hcf
      go_wp2_with (first
        | (refine wpList_load_row rfl 22 (.tmp 3) rfl (w.heap.size + 1) rfl 22 _ (0, 0) _ Hcs.out Tryd.underlying22 rfl (by rw [hi22, h16]) ?_)
        | (refine wpList_store_row rfl 22 (.tmp 2) (.tmp 31) rfl w.heap.size (bs.map Extern.Stop.cell).toArray rfl rfl 22 old Hold.out (by rw [hi22, h16]) (by rw [holds, h16]) cells_all ?_))
      have hrow := setRow_heap wr w.heap.size old (bs.map Extern.Stop.cell).toArray 22 (0, 0) Hold.out
      refine bodyPost_ret (v := .agg (bs.map Extern.Stop.cell).toArray) (results_cell_row Tryd.results10 _ _ w.heap.size 22 _ (0, 0) _ rfl hrow Tryd.underlying22 rfl (by rw [hi22, h16])) rfl ⟨rfl, ?_⟩
      exact ⟨HB.out.os, HB.out.tape, HB.out.output, by rw [size_setRow]; exact HB.out.size, fun k hk => (setRow_other wr w.heap.size k _ (by omega)).trans (HB.out.block k hk)⟩

theorem decode10 (bs : List UInt8) (mask : Nat) (w : World) (hb : bs.length = 16) :
    Calls Tryd.prog 10 #[.string (spellB bs mask)] w fun e w' => e = .returned (.agg (bs.map Extern.Stop.cell).toArray) ∧ Below w.heap.size w w' :=
  decode10_gen bs mask (spellB bs mask) w rfl hb
end Go.Proofs.Qxb6601663aDoor
