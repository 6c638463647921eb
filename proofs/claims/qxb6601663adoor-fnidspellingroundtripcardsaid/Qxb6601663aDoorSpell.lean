import Derived.Test.Qxb6601663aDoorRows
import Derived.WalkKit
import Derived.WalkSpells
import Derived.WalkLawsBesides
import Derived.Stop.BytesEq
import Derived.Lib.Strings
import Derived.Maps.AppendAt
namespace Go.Proofs.Qxb6601663aDoor
open Go.RowKit

theorem Tryd.info5 : (Tryd.prog.info? 5).map (fun i => (i.zero, i.size, i.bytes)) = some (some (.int .u8 0), 1, 1) := by kernel_rfl
/-- Bytes as cells. -/
def bcells (l : List UInt8) : List Value := l.map Extern.Stop.cell
theorem bcells_snoc (l : List UInt8) (c : UInt8) : bcells l ++ [.int .u8 (c.toNat : Int)] = bcells (l ++ [c]) := by simp [bcells, Extern.Stop.cell]

/-- 'buf = append(buf, c)', buf a row of the call's own. -/
theorem wpList_push {ops : Array Oper} {rest : List Oper} {o : Oper} {a : Act} {Q : Exit → Act → World → Prop} (hgd : o.guard = none) (s x : Operand)
    (ho : o.op = .call { callee := .builtin .append, args := #[s, x], argTypes := #[30, 30] })
    (B : Nat) (wr : World) (v : Value) (l : List UInt8) (hs : a.eval s = v) (hx : a.eval x = .slice (some ⟨wr.heap.size, 0, none⟩) 1 1) (hown : wr.ownsRow B 5 1 v l.length (bcells l)) (c : UInt8) (cv : Int) (hc : cv = (c.toNat : Int))
    (hl : l.length ≤ 1000000000) (W0 : World) (hW0 : B ≤ W0.heap.size) (hbel : Below B W0 wr)
    (h : ∀ v' w', w'.ownsRow B 5 1 v' (l ++ [c]).length (bcells (l ++ [c])) → Below B W0 w' → wpList Tryd.prog ops Q rest (a.put o.dst v') w') :
    wpList Tryd.prog ops Q (o :: rest) a (wr.alloc (.cells #[.int .u8 cv] 5)) := by
  obtain ⟨i5, hi5, hz50, hz51, hz52⟩ := info_parts Tryd.info5
  subst hc
  have hBr : B ≤ wr.heap.size := Nat.le_trans hW0 hbel.size
  refine wpList_append_own _ hgd s x 30 ho B 5 i5 (.int .u8 0) 1 1 Tryd.underlying30 hi5 hz50 hz51 hz52 rfl (by decide) v l.length (bcells l) hs (hown.alloc _) ⟨wr.heap.size, 0, none⟩ 1 1 [.int .u8 (c.toNat : Int)] hx rfl (cell_one_new _ _ _)
    (by intro u hu; simp at hu; subst hu; rfl) (by unfold maxLen; omega) (by omega) (by simp; omega) ?_
  intro v' w' h1 h2 _
  refine h v' w' ?_ ?_
  · rw [← bcells_snoc, List.length_append]; exact h1
  · exact (hbel.alloc hBr _).grown h2 (by simp; omega) fun k e => (hown.lt k e).1

/-- One hexadecimal digit. -/
def hexV (v : Nat) (up : Bool) : UInt8 := UInt8.ofNat (if v < 10 then 48 + v else if up then 55 + v else 87 + v)
theorem hexV_val (v : Nat) (up : Bool) (hv : v < 16) : (hexV v up).toNat = if v < 10 then 48 + v else if up then 55 + v else 87 + v := by
  unfold hexV
  rw [UInt8.toNat_ofNat']
  split
  · omega
  · split <;> omega

set_option maxHeartbeats 400000 in
theorem hex17 (v : Int) (up : Bool) (w : World) (h0 : 0 ≤ v) (hv : v < 16) :
    Calls Tryd.prog 17 #[.int .u8 v, .bool up] w fun e w' => e = .returned (.int .u8 ((hexV v.toNat up).toNat : Int)) ∧ w = w' := by
  rw [hexV_val v.toNat up (by omega)]
  go_enter Tryd.func17, Tryd.ntmps17
  by_cases h10 : v < 10
  · rw [if_pos (by omega)]
    go_wp2
    go_ret
    exact ⟨by go_num, rfl⟩
  · rw [if_neg (by omega)]
    cases up
    all_goals
      go_wp2
      go_ret
      exact ⟨by go_num, rfl⟩

/-- Bit j of the mask. -/
def bit (mask : Nat) (j : Nat) : Bool := ((mask : Int) / 2 ^ j % 2 == 1)
/-- What is written for byte i. -/
def spellAt (mask : Nat) (i : Nat) (b : UInt8) : List UInt8 :=
  (if i = 4 ∨ i = 6 ∨ i = 8 ∨ i = 10 then [45] else []) ++ [hexV (b.toNat / 16) (bit mask (2 * i)), hexV (b.toNat % 16) (bit mask (2 * i + 1))]
def spellK (bs : List UInt8) (mask : Nat) : Nat → List UInt8
  | 0 => []
  | k + 1 => spellK bs mask k ++ spellAt mask k (bs.getD k 0)
theorem spellK_length (bs : List UInt8) (mask k : Nat) : (spellK bs mask k).length ≤ 3 * k := by
  induction k with
  | zero => simp [spellK]
  | succ k ih => rw [spellK, List.length_append, spellAt, List.length_append]; split <;> simp <;> omega
theorem spell_plain (bs : List UInt8) (mask k : Nat) (hy : ¬ (k = 4 ∨ k = 6 ∨ k = 8 ∨ k = 10)) :
    spellK bs mask k ++ [hexV ((bs.getD k 0).toNat / 16) (bit mask (2 * k))] ++ [hexV ((bs.getD k 0).toNat % 16) (bit mask (2 * k + 1))] = spellK bs mask (k + 1) := by
  rw [spellK, spellAt, if_neg hy]; simp
theorem spell_hyphen (bs : List UInt8) (mask k : Nat) (hy : k = 4 ∨ k = 6 ∨ k = 8 ∨ k = 10) :
    spellK bs mask k ++ [45] ++ [hexV ((bs.getD k 0).toNat / 16) (bit mask (2 * k))] ++ [hexV ((bs.getD k 0).toNat % 16) (bit mask (2 * k + 1))] = spellK bs mask (k + 1) := by
  rw [spellK, spellAt, if_pos hy]; simp
theorem u32_and1 (x : Int) (h0 : 0 ≤ x) (h1 : x < 4294967296) : bits .and .u32 x 1 = x % 2 :=
  bits_mask .u32 32 (by decide) (fun n h h' => by rw [IntKind.wrap_u32]; omega) 1 (by decide) x h0 h1
theorem bit_and (mask j : Nat) (hm : mask < 4294967296) : bits .and .u32 ((mask : Int) / 2 ^ j) 1 = (mask : Int) / 2 ^ j % 2 := by
  refine u32_and1 _ (Int.ediv_nonneg (by omega) (Int.pow_nonneg (by omega))) ?_
  exact Int.lt_of_le_of_lt (Int.ediv_le_self _ (by omega)) (by omega)
theorem byte_lt (c : UInt8) : (c.toNat : Int) < 256 := by have := c.toNat_lt; omega

/-- string(b), b a row of bytes of the call's own. -/
theorem convert_own {w : World} {base : Nat} {v : Value} {l : List UInt8} (h : w.ownsRow base 5 1 v l.length (bcells l)) : (convert 30 9 v).run Tryd.prog w = .ok (.string ⟨l.toArray⟩) w := by
  rcases h.2 with ⟨rfl, h0⟩ | ⟨g, cap, cur, rfl, _⟩
  · have e : l = [] := List.eq_nil_of_length_eq_zero h0
    subst e
    exact run_convert_bytes_nil w 30 5 Tryd.underlying30 Tryd.underlying5 0 0 9 Tryd.underlying9
  · exact run_convert_bytes_back w 30 9 5 ⟨g, 0, none⟩ cap l Tryd.underlying30 Tryd.underlying5 Tryd.underlying9 fun j hj => h.cells (g := g) rfl j _ (by simp [bcells, Extern.Stop.cell, hj])

theorem own_eq {w : World} {B : Nat} {v : Value} {l l' : List UInt8} (h : l = l') (hown : w.ownsRow B 5 1 v l.length (bcells l)) : w.ownsRow B 5 1 v l'.length (bcells l') := h ▸ hown
theorem hcell_later {N k : Nat} {W0 wr w0 : World} {x : Value} (h : wr.cell? ⟨N, k, none⟩ = some x) (h1 : Below (N + 1) W0 wr) (h2 : Below (N + 1) W0 w0) : w0.cell? ⟨N, k, none⟩ = some x := by
  rw [h2.cell (p := ⟨N, k, none⟩) (by simp), ← h1.cell (p := ⟨N, k, none⟩) (by simp)]
  exact h

set_option maxRecDepth 100000 in
set_option maxHeartbeats 1000000 in
theorem spell7 (bs : List UInt8) (mask : Nat) (w : World) (hb : bs.length = 16) (hm : mask < 4294967296) :
    Calls Tryd.prog 7 #[.agg (bs.map Extern.Stop.cell).toArray, .int .u32 (mask : Int)] w fun e w' => e = .returned (.string ⟨(spellK bs mask 16).toArray⟩) ∧ Below w.heap.size w w' := by
  obtain ⟨i5, hi5, hz50, hz51, hz52⟩ := info_parts Tryd.info5
  have hmk : ∀ w, (Instr.makeSlice 30 (.int .i64 0) (.int .i64 36)).run Tryd.prog w = .ok (.slice (some ⟨w.heap.size, 0, none⟩) 0 36) (w.alloc (.cells (madeCells #[.int .u8 0] 36) 5)) := by
    intro w
    have := run_make (P := Tryd.prog) w 30 5 i5 _ Tryd.underlying30 hi5 hz50 .i64 .i64 0 36 (by omega) (by omega) (by rw [hz52]; omega) (by omega)
    rw [hz51] at this
    exact this
  have HL : Hid (bs.length = 16) := hb
  clear hi5 hz50 hz51 hz52 hb
  go_enter Tryd.func7, Tryd.ntmps7
  go_wp2
  clear hmk
  obtain ⟨W0, hW0⟩ : ∃ W0, W0 = w.alloc (.cells (bs.map Extern.Stop.cell).toArray 22) := ⟨_, rfl⟩
  have hs0 : w.heap.size + 1 ≤ W0.heap.size := by rw [hW0]; simp
  have HW0 : Hid (W0 = w.alloc (.cells (bs.map Extern.Stop.cell).toArray 22)) := hW0
  go_loopw [5, 6, 7] (fun v kk i wr => ∃ k : Nat, k ≤ 16 ∧ i = .int .i64 k ∧ kk = .int .i64 (2 * k : Nat) ∧ wr.ownsRow (w.heap.size + 1) 5 1 v (spellK bs mask k).length (bcells (spellK bs mask k)) ∧ Below (w.heap.size + 1) W0 wr) (fun _ _ i _ => 16 - (intOf i).toNat)
  case atStart =>
    subst hW0
    refine ⟨0, by omega, rfl, rfl, ?_, ?_⟩
    · have := World.ownsRow_made (base := w.heap.size + 1) (e := 5) (size := 1) (w.alloc (.cells (bs.map Extern.Stop.cell).toArray 22)) (madeCells #[.int .u8 0] 36) 36 (by simp) (by unfold maxLen; omega) (by simp [size_madeCells])
      simpa [bcells, spellK] using this
    · exact (Below.refl _ _).alloc (by simp) _
  case round =>
    clear hW0
    obtain ⟨k, hk, rfl, rfl, hown, hbel⟩ := hrel
    by_cases hlt : k < 16
    · obtain ⟨c, hc⟩ : ∃ c, c = bs.getD k 0 := ⟨_, rfl⟩
      have hcell : wr.cell? ⟨w.heap.size, k, none⟩ = some (.int .u8 (c.toNat : Int)) := by
        rw [hbel.cell (p := ⟨w.heap.size, k, none⟩) (by simp), HW0.out, hc]
        simp [Extern.Stop.cell, HL.out, hlt]
      have hln := spellK_length bs mask k
      have hc256 := byte_lt c
      have hlo : bits .and .u8 (c.toNat : Int) 15 = (c.toNat : Int) % 16 := u8_and15 _ (by omega) hc256
      have hb0 := bit_and mask (2 * k) hm
      have hb1 := bit_and mask (2 * k + 1) hm
      by_cases hy : k = 4 ∨ k = 6 ∨ k = 8 ∨ k = 10
      · have HE := spell_hyphen bs mask k hy
        rw [← hc] at HE
        have HE3 : Hid (spellK bs mask k ++ [45] ++ [hexV (c.toNat / 16) (bits .and .u32 ((mask : Int) / 2 ^ (2 * k)) 1 == 1)] ++ [hexV (c.toNat % 16) (bits .and .u32 ((mask : Int) / 2 ^ (2 * k + 1)) 1 == 1)] = spellK bs mask (k + 1)) := by
          rw [hb0, hb1]; exact HE
        clear hc HE hb0 hb1
        rcases hy with rfl | rfl | rfl | rfl
        all_goals
          go_wp2_with (first
            | (go_at_call 17; refine (hex17 _ _ _ (by omega) (by omega)).mono ?_; rintro e w' ⟨rfl, rfl⟩)
            | (at_builtin; refine wpList_push rfl (.tmp 29) (.tmp 30) rfl (w.heap.size + 1) wr u5 _ rfl rfl hown 45 45 rfl (by omega) W0 hs0 hbel ?_; intro v0 w0 hown0 hbel0; have hcell0 := hcell_later hcell hbel hbel0)
            | (at_builtin; refine wpList_push rfl (.tmp 40) (.tmp 49) rfl (w.heap.size + 1) w0 v0 _ rfl rfl hown0 _ _ rfl (by rw [List.length_append]; simp; omega) W0 hs0 hbel0 ?_; intro v1 w1 hown1 hbel1)
            | (at_builtin; refine wpList_push rfl (.tmp 53) (.tmp 62) rfl (w.heap.size + 1) w1 v1 _ rfl rfl hown1 _ _ rfl (by rw [List.length_append, List.length_append]; simp; omega) W0 hs0 hbel1 ?_; intro v2 w2 hown2 hbel2))
          go_roundw
          case rel => exact ⟨_, by omega, by go_num, by go_num, own_eq HE3.out hown2, hbel2⟩
          case measure => simp [intOf]
      · have HE := spell_plain bs mask k hy
        rw [← hc] at HE
        have HE2 : Hid (spellK bs mask k ++ [hexV (c.toNat / 16) (bit mask (2 * k))] ++ [hexV (c.toNat % 16) (bit mask (2 * k + 1))] = spellK bs mask (k + 1)) := HE
        have n4 : ((k : Int) == 4) = false := by rw [beq_eq_false_iff_ne]; omega
        have n6 : ((k : Int) == 6) = false := by rw [beq_eq_false_iff_ne]; omega
        have n8 : ((k : Int) == 8) = false := by rw [beq_eq_false_iff_ne]; omega
        have n10 : ((k : Int) == 10) = false := by rw [beq_eq_false_iff_ne]; omega
        clear hy HE hc
        go_wp2_with (first
          | (go_at_call 17; refine (hex17 _ _ _ (by omega) (by omega)).mono ?_; rintro e w' ⟨rfl, rfl⟩)
          | (at_builtin; refine wpList_push rfl (.tmp 40) (.tmp 49) rfl (w.heap.size + 1) wr u5 _ rfl rfl hown _ _ rfl (by omega) W0 hs0 hbel ?_; intro v1 w1 hown1 hbel1)
          | (at_builtin; refine wpList_push rfl (.tmp 53) (.tmp 62) rfl (w.heap.size + 1) w1 v1 _ rfl rfl hown1 _ _ rfl (by rw [List.length_append]; simp; omega) W0 hs0 hbel1 ?_; intro v2 w2 hown2 hbel2))
        go_roundw
        case rel => exact ⟨k + 1, by omega, by go_num, by go_num, by rw [← HE2.out]; exact hown2, hbel2⟩
        case measure => simp [intOf]; omega
    · have : k = 16 := by omega
      subst this
      have hconv := convert_own hown
      go_wp2
      go_ret
      refine ⟨rfl, ?_⟩
      have h0 : Below w.heap.size w W0 := by rw [HW0.out]; exact (Below.refl _ _).alloc (Nat.le_refl _) _
      exact h0.trans (hbel.mono (by omega))
end Go.Proofs.Qxb6601663aDoor
