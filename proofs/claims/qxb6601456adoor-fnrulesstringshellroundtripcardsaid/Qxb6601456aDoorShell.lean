import Derived.Test.Qxb6601456aDoorRows
import Derived.Test.Qxb6601456aDoorPlain
import Derived.WalkKit
import Derived.WalkSpells
import Derived.WalkLawsBesides
import Derived.RegionTactic
import Derived.Lib.AppendStr
import Derived.Lib.Strings
import Derived.Maps.AppendAt
namespace Go.Proofs.Qxb6601456aDoor
open Go.RowKit
theorem Tryd.info5 : (Tryd.prog.info? 5).map (fun i => (i.zero, i.size, i.bytes)) = some (some (.int .u8 0), 1, 1) := by kernel_rfl
theorem Tryd.info9 : (Tryd.prog.info? 9).map (fun i => (i.zero, i.size, i.bytes)) = some (some (.string ⟨#[]⟩), 1, 16) := by kernel_rfl

/-- Bytes, and texts, as cells. -/
def bcells (l : List UInt8) : List Value := l.map fun b => .int .u8 (b.toNat : Int)
def scells (ws : List (List UInt8)) : List Value := ws.map fun l => .string ⟨l.toArray⟩

theorem bcells_snoc (l : List UInt8) (c : UInt8) : bcells l ++ [.int .u8 (c.toNat : Int)] = bcells (l ++ [c]) := by simp [bcells]
theorem bcells_str (l : List UInt8) (s : ByteArray) : bcells l ++ Lib.strCells s = bcells (l ++ s.data.toList) := by simp [bcells, Lib.strCells]
theorem scells_snoc (ws : List (List UInt8)) (l : List UInt8) : scells ws ++ [.string ⟨l.toArray⟩] = scells (ws ++ [l]) := by simp [scells]

/-- string(b), b a row of bytes of the call's own. -/
theorem convert_own {w : World} {base : Nat} {v : Value} {l : List UInt8} (h : w.ownsRow base 5 1 v l.length (bcells l)) : (convert 41 9 v).run Tryd.prog w = .ok (.string ⟨l.toArray⟩) w := by
  rcases h.2 with ⟨rfl, h0⟩ | ⟨g, cap, cur, rfl, _⟩
  · have e : l = [] := List.eq_nil_of_length_eq_zero h0
    subst e
    exact run_convert_bytes_nil w 41 5 Tryd.underlying41 Tryd.underlying5 0 0 9 Tryd.underlying9
  · exact run_convert_bytes_back w 41 9 5 ⟨g, 0, none⟩ cap l Tryd.underlying41 Tryd.underlying5 Tryd.underlying9 fun j hj => h.cells (g := g) rfl j _ (by simp [bcells, hj])

/-- Rows of two types are two rows. -/
theorem own_apart {w : World} {B C : Nat} {v u : Value} {n m : Nat} {xs ys : List Value} {t t' : TypeId} (ht : t ≠ t') (h : w.ownsRow B t 1 v n xs) (k : w.ownsRow C t' 1 u m ys) : v.ownBlock = none ∨ v.ownBlock ≠ u.ownBlock := by
  rcases h.2 with ⟨rfl, _⟩ | ⟨g, cap, cur, rfl, _, hg, _⟩
  · exact .inl rfl
  · refine .inr fun e => ?_
    rcases k.2 with ⟨rfl, _⟩ | ⟨g', cap', cur', rfl, _, hg', _⟩
    · cases e
    · simp only [Value.ownBlock, Option.some.injEq] at e
      subst e
      rw [hg] at hg'
      simp only [Option.some.injEq, Obj.cells.injEq] at hg'
      exact ht hg'.2.1

theorem drop_at (s : ByteArray) (k : Nat) (h : k < s.size) : s.data.toList.drop k = s[k] :: s.data.toList.drop (k + 1) := by
  rw [List.drop_eq_getElem_cons (by simpa using h)]; rfl

theorem ne_byte {c : UInt8} {n : Nat} [OfNat UInt8 n] (h : c ≠ OfNat.ofNat n) (hn : (OfNat.ofNat n : UInt8).toNat = n := by rfl) : ((c.toNat : Int) == (n : Int)) = false := by
  rw [beq_eq_false_iff_ne]
  intro e
  exact h (UInt8.toNat_inj.1 (by omega))

/-- The reader's state at a round's head. -/
def ShInv (s : ByteArray) (W : List (List UInt8)) (B : Nat) (w : World) (vw vc vi vk : Value) (wr : World) : Prop :=
  ∃ (k : Nat) (ws : List (List UInt8)) (cl : List UInt8) (inW : Bool), k ≤ s.size ∧ vk = .int .i64 k ∧ vi = .bool inW ∧ wr.ownsRow B 9 1 vw ws.length (scells ws) ∧ wr.ownsRow B 5 1 vc cl.length (bcells cl) ∧
    sh (s.data.toList.drop k) 0 cl inW ws = some W ∧ ws.length ≤ k ∧ cl.length ≤ k ∧ Below B w wr

theorem step_words {w wr w1 : World} {vw v' : Value} {ws : List (List UInt8)} {cl : List UInt8} {o : Obj} (hw9 : wr.ownsRow w.heap.size 9 1 vw ws.length (scells ws)) (hbel : Below w.heap.size w wr)
    (hown : w1.ownsRow w.heap.size 9 1 v' (ws.length + 1) (scells ws ++ [.string ⟨cl.toArray⟩])) (hgrow : (wr.alloc o).grownBy w1 vw.ownBlock) :
    w1.ownsRow w.heap.size 9 1 v' (ws ++ [cl]).length (scells (ws ++ [cl])) ∧ Below w.heap.size w w1 := by
  refine ⟨?_, ?_⟩
  · rw [← scells_snoc, List.length_append]; exact hown
  · exact (hbel.alloc hbel.size o).grown hgrow (by have := hbel.size; simp; omega) fun k e => (hw9.lt k e).1

theorem step_cur {w wr w1 : World} {vw vc v' : Value} {ws : List (List UInt8)} {cl : List UInt8} {n : Nat} {xs : List Value} {cl' : List UInt8} (hw9 : wr.ownsRow w.heap.size 9 1 vw ws.length (scells ws))
    (hw5 : wr.ownsRow w.heap.size 5 1 vc cl.length (bcells cl)) (hbel : Below w.heap.size w wr) (hown : w1.ownsRow w.heap.size 5 1 v' n xs) (hgrow : wr.grownBy w1 vc.ownBlock) (hn : n = cl'.length) (hx : xs = bcells cl') :
    w1.ownsRow w.heap.size 9 1 vw ws.length (scells ws) ∧ w1.ownsRow w.heap.size 5 1 v' cl'.length (bcells cl') ∧ Below w.heap.size w w1 := by
  subst hn hx
  exact ⟨hw9.kept hgrow (own_apart (by decide) hw9 hw5), hown, hbel.grown hgrow hbel.size fun k e => (hw5.lt k e).1⟩

/-- No quote between the places k + 1 and m. -/
def NoQ (s : ByteArray) (k m : Nat) : Prop := 39 ∉ (s.data.toList.drop (k + 1)).take (m - (k + 1))
theorem noQ_start (s : ByteArray) (k : Nat) : NoQ s k (k + 1) := by simp [NoQ]
theorem noQ_step {s : ByteArray} {k m : Nat} (h : NoQ s k m) (hk : k + 1 ≤ m) (hm : m < s.size) (hc : s[m] ≠ 39) : NoQ s k (m + 1) := by
  unfold NoQ at *
  rw [show m + 1 - (k + 1) = m - (k + 1) + 1 by omega, List.take_succ_eq_append_getElem (by rw [List.length_drop, ← Lib.size_eq]; omega), List.mem_append, not_or]
  refine ⟨h, ?_⟩
  rw [List.mem_singleton, List.getElem_drop]
  intro e
  refine hc ?_
  have : s[m] = s.data.toList[m]'(by rw [← Lib.size_eq]; exact hm) := rfl
  rw [this, e]
  congr 1
  omega
theorem noQ_open {s : ByteArray} {k m : Nat} (h : NoQ s k m) (hm : s.size ≤ m) (cl : List UInt8) (inW : Bool) (ws : List (List UInt8)) : sh (s.data.toList.drop (k + 1)) 1 cl inW ws = none := by
  unfold NoQ at h
  rw [List.take_of_length_le (by rw [List.length_drop, ← Lib.size_eq]; omega)] at h
  exact sh_open _ _ _ _ h
theorem noQ_shut {s : ByteArray} {k m : Nat} (h : NoQ s k m) (hk : k + 1 ≤ m) (hm : m < s.size) (hc : s[m] = 39) (cl : List UInt8) (inW : Bool) (ws : List (List UInt8)) :
    sh (s.data.toList.drop (k + 1)) 1 cl inW ws = sh (s.data.toList.drop (m + 1)) 0 (cl ++ (s.extract (k + 1) m).data.toList) true ws := by
  have e : s.data.toList.drop (k + 1) = (s.extract (k + 1) m).data.toList ++ 39 :: s.data.toList.drop (m + 1) := by
    rw [Lib.extract_data, ← hc, ← drop_at s m hm]
    have := List.take_append_drop (m - (k + 1)) (s.data.toList.drop (k + 1))
    rw [List.drop_drop, show k + 1 + (m - (k + 1)) = m by omega] at this
    exact this.symm
  have hq : 39 ∉ (s.extract (k + 1) m).data.toList := by rw [Lib.extract_data]; exact h
  rw [e, sh_in _ _ _ _ _ hq]

set_option maxRecDepth 100000 in
set_option maxHeartbeats 1000000 in
theorem shell10 (s : ByteArray) (W : List (List UInt8)) (w : World) (hs : s.size ≤ 1073741824) (hW : Hid (sh s.data.toList 0 [] false [] = some W)) :
    Calls Tryd.prog 10 #[.string s] w fun e w' => ∃ v, e = .returned (.tuple #[v, .bool true]) ∧ w'.ownsRow w.heap.size 9 1 v W.length (scells W) ∧ Below w.heap.size w w' := by
  obtain ⟨i5, hi5, hz50, hz51, hz52⟩ := info_parts Tryd.info5
  obtain ⟨i9, hi9, hz90, hz91, hz92⟩ := info_parts Tryd.info9
  go_enter Tryd.func10, Tryd.ntmps10
  go_wp2
  go_loopw [4, 5, 6, 7] (fun vw vc vi vk wr => ShInv s W w.heap.size w vw vc vi vk wr) (fun _ _ _ vk _ => s.size - (intOf vk).toNat)
  case atStart => exact ⟨0, [], [], false, Nat.zero_le _, rfl, rfl, World.ownsRow_nil _ _ _ _, World.ownsRow_nil _ _ _ _, hW.out, Nat.le_refl _, Nat.le_refl _, Below.refl _ _⟩
  case round =>
    obtain ⟨k, ws, cl, inW, hk, rfl, rfl, hw9, hw5, hsh, hlw, hlc, hbel⟩ := hrel
    by_cases hlt : k < s.size
    · have hdr : s.data.toList.drop k = s[k] :: s.data.toList.drop (k + 1) := drop_at s k hlt
      rw [hdr] at hsh
      clear hdr
      by_cases h32 : s[k] = 32
      · have c32 : (s[k].toNat : Int) ≤ 32 := by rw [h32]; decide
        have c32' : 32 ≤ (s[k].toNat : Int) := by rw [h32]; decide
        cases inW
        · have HS : Hid (sh (s.data.toList.drop (k + 1)) 0 cl false ws = some W) := by rw [h32, sh_space] at hsh; exact hsh
          clear hsh h32
          go_wp2
          go_roundw
          case rel => exact ⟨k + 1, ws, cl, false, by omega, by go_num, rfl, hw9, hw5, HS.out, by omega, by omega, hbel⟩
          case measure => simp [intOf]; omega
        · have hconv := convert_own hw5
          have HS : Hid (sh (s.data.toList.drop (k + 1)) 0 [] false (ws ++ [cl]) = some W) := by rw [h32, sh_space] at hsh; exact hsh
          clear hsh h32
          go_wp2_with (at_builtin; refine wpList_append_own _ rfl _ _ 28 rfl w.heap.size 9 i9 (.string ⟨#[]⟩) 1 16 Tryd.underlying28 hi9 hz90 hz91 hz92 rfl (by decide) u4 ws.length (scells ws) rfl (hw9.alloc _) ⟨wr.heap.size, 0, none⟩ 1 1 [.string ⟨cl.toArray⟩] rfl rfl (cell_one_new _ _ _) (by intro u hu; simp at hu; subst hu; rfl) (by unfold maxLen; omega) (by omega) (by have := hbel.size; simp; omega) ?_; intro v' w1 hown' hgrow _)
          have R := step_words hw9 hbel hown' hgrow
          clear hown' hgrow hw9 hw5 hconv
          go_roundw
          case rel => exact ⟨k + 1, ws ++ [cl], [], false, by omega, by go_num, rfl, R.1, World.ownsRow_nil _ _ _ _, HS.out, by simp; omega, by simp, R.2⟩
          case measure => simp [intOf]; omega
      · have n32 : ((s[k].toNat : Int) == 32) = false := ne_byte h32
        by_cases h39 : s[k] = 39
        · have c39 : (s[k].toNat : Int) ≤ 39 := by rw [h39]; decide
          have c39' : 39 ≤ (s[k].toNat : Int) := by rw [h39]; decide
          have HS : Hid (sh (s.data.toList.drop (k + 1)) 1 cl true ws = some W) := by rw [h39, sh_quote] at hsh; exact hsh
          clear hsh h32 h39
          go_wp2
          go_loop [9] (fun vj => ∃ m : Nat, k + 1 ≤ m ∧ m ≤ s.size ∧ vj = .int .i64 m ∧ NoQ s k m) (fun vj => s.size - (intOf vj).toNat)
          case atStart => exact ⟨k + 1, Nat.le_refl _, by omega, by go_num, noQ_start s k⟩
          case round =>
            obtain ⟨m, hm1, hm2, rfl, hq⟩ := hrel
            by_cases hms : m < s.size
            · by_cases hm39 : s[m] = 39
              · have d39 : (s[m].toNat : Int) ≤ 39 := by rw [hm39]; decide
                have d39' : 39 ≤ (s[m].toNat : Int) := by rw [hm39]; decide
                have HT : Hid (sh (s.data.toList.drop (m + 1)) 0 (cl ++ (s.extract (k + 1) m).data.toList) true ws = some W) := by rw [← noQ_shut hq hm1 hms hm39]; exact HS.out
                have hes : (s.extract (k + 1) m).size ≤ 1073741824 := by rw [ByteArray.size_extract]; omega
                clear hm39 HS hq
                go_wp2_with (at_builtin; refine Lib.wpList_append_own_string _ rfl _ _ 41 9 rfl w.heap.size 5 i5 Tryd.underlying41 Tryd.underlying9 hi5 hz50 hz51 hz52 u5 cl.length (bcells cl) rfl hw5 (s.extract (k + 1) m) rfl (by unfold maxLen; omega) (by omega) hbel.size ?_; intro v' w1 hown' hgrow _)
                have R := step_cur (cl' := cl ++ (s.extract (k + 1) m).data.toList) hw9 hw5 hbel hown' hgrow (by rw [List.length_append, ← Lib.size_eq]) (bcells_str _ _)
                clear hown' hgrow hw9 hw5
                go_roundw
                case rel => exact ⟨m + 1, ws, _, true, by omega, by go_num, rfl, R.1, R.2.1, HT.out, by omega, by rw [List.length_append, ← Lib.size_eq, ByteArray.size_extract]; omega, R.2.2⟩
                case measure => simp [intOf]; omega
              · have n39 : ((s[m].toNat : Int) == 39) = false := ne_byte hm39
                have hq' := noQ_step hq hm1 hms hm39
                clear hm39 hq
                go_wp2
                go_round
                case rel => exact ⟨m + 1, by omega, by omega, by go_num, hq'⟩
                case measure => simp [intOf]; omega
            · have hex := noQ_open hq (by omega) cl true ws
              rw [HS.out] at hex
              cases hex
        · have n39 : ((s[k].toNat : Int) == 39) = false := ne_byte h39
          by_cases h92 : s[k] = 92
          · have c92 : (s[k].toNat : Int) ≤ 92 := by rw [h92]; decide
            have c92' : 92 ≤ (s[k].toNat : Int) := by rw [h92]; decide
            by_cases hl1 : k + 1 < s.size
            · have HS : Hid (sh (s.data.toList.drop (k + 1 + 1)) 0 (cl ++ [s[k + 1]]) true ws = some W) := by
                rw [h92, drop_at s (k + 1) hl1, sh_back] at hsh; exact hsh
              clear hsh h32 h39 h92
              go_wp2_with (at_builtin; refine wpList_append_own _ rfl _ _ 41 rfl w.heap.size 5 i5 (.int .u8 0) 1 1 Tryd.underlying41 hi5 hz50 hz51 hz52 rfl (by decide) u5 cl.length (bcells cl) rfl (hw5.alloc _) ⟨wr.heap.size, 0, none⟩ 1 1 [.int .u8 (s[k + 1].toNat : Int)] rfl rfl (cell_one_new _ _ _) (by intro u hu; simp at hu; subst hu; rfl) (by unfold maxLen; omega) (by omega) (by have := hbel.size; simp; omega) ?_; intro v' w1 hown' hgrow _)
              have R := step_cur (cl' := cl ++ [s[k + 1]]) hw9 hw5 hbel hown' ((World.grownBy_alloc wr _ _).trans hgrow) (by simp) (bcells_snoc _ _)
              clear hown' hgrow hw9 hw5
              go_roundw
              case rel => exact ⟨k + 1 + 1, ws, _, true, by omega, by go_num, rfl, R.1, R.2.1, HS.out, by omega, by simp; omega, R.2.2⟩
              case measure => simp [intOf]; omega
            · exfalso
              rw [h92, List.drop_eq_nil_of_le (by rw [← Lib.size_eq]; omega), sh_back_end] at hsh
              cases hsh
          · have n92 : ((s[k].toNat : Int) == 92) = false := ne_byte h92
            have HS : Hid (sh (s.data.toList.drop (k + 1)) 0 (cl ++ [s[k]]) true ws = some W) := by rw [sh_plain _ _ _ _ _ h32 h39 h92] at hsh; exact hsh
            clear hsh h32 h39 h92
            go_wp2_with (at_builtin; refine wpList_append_own _ rfl _ _ 41 rfl w.heap.size 5 i5 (.int .u8 0) 1 1 Tryd.underlying41 hi5 hz50 hz51 hz52 rfl (by decide) u5 cl.length (bcells cl) rfl (hw5.alloc _) ⟨wr.heap.size, 0, none⟩ 1 1 [.int .u8 (s[k].toNat : Int)] rfl rfl (cell_one_new _ _ _) (by intro u hu; simp at hu; subst hu; rfl) (by unfold maxLen; omega) (by omega) (by have := hbel.size; simp; omega) ?_; intro v' w1 hown' hgrow _)
            have R := step_cur (cl' := cl ++ [s[k]]) hw9 hw5 hbel hown' ((World.grownBy_alloc wr _ _).trans hgrow) (by simp) (bcells_snoc _ _)
            clear hown' hgrow hw9 hw5
            go_roundw
            case rel => exact ⟨k + 1, ws, _, true, by omega, by go_num, rfl, R.1, R.2.1, HS.out, by omega, by simp; omega, R.2.2⟩
            case measure => simp [intOf]; omega
    · rw [List.drop_eq_nil_of_le (by rw [← Lib.size_eq]; omega), sh_nil, Option.some.injEq] at hsh
      have HS : Hid ((if inW then ws ++ [cl] else ws) = W) := hsh
      clear hsh
      cases inW
      · have e : ws = W := HS.out
        subst e
        go_wp2
        go_ret2
        exact ⟨_, rfl, hw9, hbel⟩
      · have e : ws ++ [cl] = W := HS.out
        have hconv := convert_own hw5
        have HE : Hid (ws ++ [cl] = W) := e
        clear e HS
        go_wp2_with (at_builtin; refine wpList_append_own _ rfl _ _ 28 rfl w.heap.size 9 i9 (.string ⟨#[]⟩) 1 16 Tryd.underlying28 hi9 hz90 hz91 hz92 rfl (by decide) u4 ws.length (scells ws) rfl (hw9.alloc _) ⟨wr.heap.size, 0, none⟩ 1 1 [.string ⟨cl.toArray⟩] rfl rfl (cell_one_new _ _ _) (by intro u hu; simp at hu; subst hu; rfl) (by unfold maxLen; omega) (by omega) (by have := hbel.size; simp; omega) ?_; intro v' w1 hown' hgrow _)
        have R := step_words hw9 hbel hown' hgrow
        clear hown' hgrow hw9 hw5 hconv
        go_ret2
        rw [HE.out] at R
        exact ⟨_, rfl, R.1, R.2⟩
end Go.Proofs.Qxb6601456aDoor
