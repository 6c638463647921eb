/-
  The law's walk (function 3).
-/
import Derived.Test.Qxb6601456aDoorString
import Derived.Test.Qxb6601456aDoorShell
import Derived.Deep.QuietTactic
import Derived.BigQuiet
namespace Go.Proofs.Qxb6601456aDoor
open Go.RowKit

/-- A word as the shell reads it. -/
def gotB (inc : Bool) (p : ByteArray) : ByteArray := ⟨(optOf inc ++ p.data.toList).toArray⟩
def gotL (len : Nat) (inc : Nat → Bool) (pat : Nat → ByteArray) : List (List UInt8) := (List.range len).map fun i => optOf (inc i) ++ (pat i).data.toList

theorem sh_out (len : Nat) (inc : Nat → Bool) (pat : Nat → ByteArray) (h : 1 ≤ len) : sh (outB len inc pat).data.toList 0 [] false [] = some (gotL len inc pat) := by
  obtain ⟨n, rfl⟩ : ∃ n, len = n + 1 := ⟨len - 1, by omega⟩
  have e : (outB (n + 1) inc pat).data.toList = Lib.join (((inc 0, (pat 0).data.toList) :: (List.range n).map fun i => (inc (i + 1), (pat (i + 1)).data.toList)).map fun y => wordOf y.1 y.2) [32] := by
    show outL (n + 1) inc pat = _
    unfold outL
    rw [List.range_succ_eq_map]
    simp [Function.comp_def]
  rw [e, sh_words]
  unfold gotL
  rw [List.range_succ_eq_map]
  simp [Function.comp_def]

theorem out_length (len : Nat) (inc : Nat → Bool) (pat : Nat → ByteArray) : (outL len inc pat).length ≤ 13 * len + 4 * sumSz pat len := by
  refine Nat.le_trans (join_length _) ?_
  rw [List.map_map]
  induction len with
  | zero => simp
  | succ n ih =>
    rw [List.range_succ, List.map_append, List.sum_append]
    have := wordOf_length (inc n) (pat n).data.toList
    rw [← Lib.size_eq] at this
    simp only [List.map_cons, List.map_nil, List.sum_cons, List.sum_nil, Function.comp_apply, sumSz]
    omega

theorem gotL_length (len : Nat) (inc : Nat → Bool) (pat : Nat → ByteArray) : (gotL len inc pat).length = len := by simp [gotL]
theorem gotL_cell (len : Nat) (inc : Nat → Bool) (pat : Nat → ByteArray) (k : Nat) (h : k < len) : (scells (gotL len inc pat))[k]? = some (.string (gotB (inc k) (pat k))) := by
  simp [scells, gotL, gotB, h]

theorem got_back (inc : Bool) (p : ByteArray) : ((gotB inc p).extract 10 (gotB inc p).size).toList = p.toList := by
  rw [Lib.extract_toList, Lib.toList_data, List.take_of_length_le (by rw [List.length_drop, ← Lib.size_eq]; omega)]
  cases inc <;> simp [gotB, optOf]

theorem got_size (inc : Bool) (p : ByteArray) : 10 ≤ (gotB inc p).size := by
  rw [Lib.size_eq]
  cases inc <;> simp [gotB, optOf]

theorem prefix_got (inc : Bool) (p : ByteArray) : Hid (∀ (o : ByteArray) (wx : World), o.data.toList = optOf inc → Calls Tryd.prog 11 #[.string (gotB inc p), .string o] wx fun e w' => e = .returned (.bool true) ∧ w' = wx) :=
  fun o wx h => prefix11 _ o p.data.toList wx (by rw [h]; rfl)

set_option maxRecDepth 100000 in
set_option maxHeartbeats 1000000 in
theorem law3_some (a : Addr) (len cap : Nat) (inc : Nat → Bool) (pat : Nat → ByteArray) (m : Int) (w : World) (hl : len ≤ maxLen) (hp : PatsAt w (some a) len pat) (hr : RulesAt w (some a) len inc pat)
    (hm : w.cell? ⟨0, 0, none⟩ = some (.int .i64 m)) :
    Calls Tryd.prog 3 #[.slice (some a) len cap] w fun e w' => e = .returned (.bool true) ∧ Below w.heap.size w w' := by
  have HM : Hid (w.cell? ⟨0, 0, none⟩ = some (.int .i64 m)) := hm
  have HR : Hid (RulesAt w (some a) len inc pat) := hr
  have HP : Hid (PatsAt w (some a) len pat) := hp
  clear hm hr hp
  go_enter Tryd.func3, Tryd.ntmps3
  go_wp2_with fail
  refine (bytes6 _ _ _ pat w hl HP.out).mono ?_
  rintro e w' ⟨r, rfl, rfl, h6⟩
  cases r
  · go_wp2; go_ret; exact ⟨rfl, Below.refl _ _⟩
  have h6' := h6 rfl
  clear h6
  go_wp2_with fail
  refine (tooBig7 _ _ _ pat _ hl (by omega) HP.out).mono ?_
  rintro e w' ⟨r, rfl, rfl, h7⟩
  cases r
  case true => go_wp2; go_ret; exact ⟨rfl, Below.refl _ _⟩
  obtain ⟨hl16, h24⟩ := h7 rfl
  clear h7
  go_wp2_with fail
  refine (toRules8 a len cap inc pat _ hl16 HR.out).mono ?_
  rintro e w8 ⟨rfl, hN, ⟨f, hrow, hf⟩, hb8⟩
  have HF8 : Hid (RulesAt w8 (some ⟨w'.heap.size, 0, none⟩) len inc pat) := fun i hi => ⟨w'.heap.size, 0, rfl, hN, by rw [Nat.zero_add, hrow.cell (by omega), (hf i hi).1], by rw [Nat.zero_add, hrow.cell (by omega), (hf i hi).2]⟩
  clear hrow hf
  by_cases hl1 : 1 ≤ len
  case neg =>
    obtain rfl : len = 0 := by omega
    go_wp2_with fail
    refine (string9_none _ _ _).mono ?_
    rintro e w9 ⟨rfl, rfl⟩
    go_wp2
    go_ret
    exact ⟨rfl, hb8⟩
  have hm8 : w8.cell? ⟨0, 0, none⟩ = some (.int .i64 m) := (hb8.cell (p := ⟨0, 0, none⟩) (World.block_lt_of_cell? w' _ HM.out)).trans HM.out
  have HM8 : Hid (w8.cell? ⟨0, 0, none⟩ = some (.int .i64 m)) := hm8
  have hol := out_length len inc pat
  have HOL : Hid ((outL len inc pat).length ≤ 13 * len + 4 * sumSz pat len) := hol
  have hob : (outB len inc pat).size ≤ 1073741824 := by
    have e : (outB len inc pat).size = (outL len inc pat).length := by rw [Lib.size_eq]; rfl
    rw [e]; omega
  have hl0 : ((len : Int) == 0) = false := by rw [beq_eq_false_iff_ne]; omega
  have HSH : Hid (sh (outB len inc pat).data.toList 0 [] false [] = some (gotL len inc pat)) := sh_out len inc pat hl1
  clear hm8 hol
  go_wp2_with fail
  refine (string9 _ _ _ _ inc pat m w8 hl16 hl1 (fun i hi => by have := sumSz_at pat len i hi; omega) HF8.out HM8.out (by have := HOL.out; show (outL len inc pat).length ≤ _; omega)).mono ?_
  rintro e w9 ⟨rfl, hb9⟩
  have hB9 : Below w'.heap.size w' w9 := hb8.trans (hb9.mono hb8.size)
  clear hb9 HF8 HM8 HOL
  go_wp2_with fail
  refine (shell10 _ (gotL len inc pat) w9 hob HSH).mono ?_
  rintro e w10 ⟨v, rfl, hown, hb10⟩
  have hB : Below w'.heap.size w' w10 := hB9.trans (hb10.mono hB9.size)
  rcases hown.2 with ⟨_, h0⟩ | ⟨g, cp, cur, rfl, hg, hrest⟩
  · rw [gotL_length] at h0; omega
  have hcells : ∀ k, k < len → w10.cell? ⟨g, k, none⟩ = some (.string (gotB (inc k) (pat k))) := fun k hk => by
    have := hown.cells (g := g) rfl k _ (gotL_cell len inc pat k hk)
    rw [Addr.add_lit, Nat.zero_add] at this
    exact this
  rw [gotL_length]
  have HC : Hid (∀ k, k < len → w10.cell? ⟨g, k, none⟩ = some (.string (gotB (inc k) (pat k)))) := hcells
  have HB : Hid (Below w'.heap.size w' w10) := hB
  clear hown hb10 hB9 hcells hg HSH hB hrest
  go_wp2
  go_loopw [6] (fun i wr => ∃ k : Nat, k ≤ len ∧ i = .int .i64 k ∧ Below w'.heap.size w' wr ∧ ∀ j, j < len → wr.cell? ⟨g, j, none⟩ = some (.string (gotB (inc j) (pat j)))) (fun i _ => len - (intOf i).toNat)
  case atStart => exact ⟨0, Nat.zero_le _, rfl, HB.out, HC.out⟩
  case round =>
    obtain ⟨k, hk, rfl, hB, hC⟩ := hrel
    have HB : Hid (Below w'.heap.size w' wr) := hB
    have HC : Hid (∀ j, j < len → wr.cell? ⟨g, j, none⟩ = some (.string (gotB (inc j) (pat j)))) := hC
    clear hC
    by_cases hlt : k < len
    · obtain ⟨b, off, e, hbl, c0, c1⟩ := HR.out k hlt
      cases e
      have d0 : wr.cell? ⟨b, off + k * 2, none⟩ = some (.bool (inc k)) := (hB.cell (p := ⟨b, off + k * 2, none⟩) hbl).trans c0
      have d1 : wr.cell? ⟨b, off + k * 2 + 1, none⟩ = some (.string (pat k)) := (hB.cell (p := ⟨b, off + k * 2 + 1, none⟩) hbl).trans c1
      have d2 := HC.out k hlt
      clear c0 c1
      cases hinc : inc k
      all_goals
        rw [hinc] at d0 d2
        have hcmp := got_back (inc k) (pat k)
        have hsz := got_size (inc k) (pat k)
        have HQ := prefix_got (inc k) (pat k)
        rw [hinc] at hcmp hsz HQ
        clear hinc
        go_wp2
        go_quiet ((go_at_call 11; exact Calls.quiet_of_same (HQ.out _ _ rfl)))
        go_wp2
        go_roundw
        case rel => exact ⟨k + 1, by omega, by go_num, below_drewN HB.out nq, fun j hj => HC.out j hj⟩
        case measure => simp [intOf]; omega
    · go_wp2
      go_ret
      exact ⟨rfl, HB.out⟩

set_option maxHeartbeats 400000 in
theorem law3_nil (w : World) : Calls Tryd.prog 3 #[.slice none 0 0] w fun e w' => e = .returned (.bool true) ∧ Below w.heap.size w w' := by
  have hp : PatsAt w none 0 (fun _ => ⟨#[]⟩) := fun i hi => by omega
  have HP : Hid (PatsAt w none 0 (fun _ => ⟨#[]⟩)) := hp
  clear hp
  go_enter Tryd.func3, Tryd.ntmps3
  go_wp2_with fail
  refine (bytes6 _ _ _ _ w (by unfold maxLen; omega) HP.out).mono ?_
  rintro e w' ⟨r, rfl, rfl, _⟩
  cases r
  · go_wp2; go_ret; exact ⟨rfl, Below.refl _ _⟩
  go_wp2_with fail
  refine (tooBig7 _ _ _ _ _ (by unfold maxLen; omega) (by simp [sumSz]) HP.out).mono ?_
  rintro e w' ⟨r, rfl, rfl, _⟩
  cases r
  case true => go_wp2; go_ret; exact ⟨rfl, Below.refl _ _⟩
  go_wp2_with fail
  refine (toRules8_nil _).mono ?_
  rintro e w8 ⟨rfl, rfl⟩
  go_wp2_with fail
  refine (string9_none _ _ _).mono ?_
  rintro e w9 ⟨rfl, rfl⟩
  go_wp2
  go_ret
  exact ⟨rfl, Below.refl _ _⟩
end Go.Proofs.Qxb6601456aDoor
