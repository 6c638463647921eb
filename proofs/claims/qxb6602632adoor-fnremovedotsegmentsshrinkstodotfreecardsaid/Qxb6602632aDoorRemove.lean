/-
  The walk of removeDotSegments (functions 13, 7) and of the byte guards (6, 10).
-/
import Derived.Test.Qxb6602632aDoorRows
import Derived.Test.Qxb6602632aDoorPlain
import Derived.Test.Qxb6602632aDoorShelf
import Derived.WalkKit
import Derived.WalkSpells
import Derived.WalkLawsBesides
import Derived.Maps.AppendAt
import Derived.Lib.Strings
import Derived.Lib.IndexBytes
import Derived.Lib.SmallJoins
namespace Go.Proofs.Qxb6602632aDoor
open Go.RowKit

theorem Tryd.info9 : (Tryd.prog.info? 9).map (fun i => (i.zero, i.size, i.bytes)) = some (some (.string ⟨#[]⟩), 1, 16) := by kernel_rfl

/-- It answers one bool of which p holds; the world is as it was. -/
def Says (p : Bool → Prop) (w : World) (e : Ending) (w' : World) : Prop := ∃ r : Bool, e = .returned (.bool r) ∧ w = w' ∧ p r

set_option maxHeartbeats 400000 in
theorem bytes6 (s : ByteArray) (w : World) (hs : s.size ≤ maxLen) : Calls Tryd.prog 6 #[.string s] w (Says (fun r => r = true → s.size ≤ 1048576) w) := by
  unfold maxLen at hs
  go_enter Tryd.func6, Tryd.ntmps6
  go_wp2
  all_goals go_ret
  all_goals refine ⟨_, rfl, rfl, ?_⟩
  all_goals first | (intro h; cases h; done) | (intro _; omega)
set_option maxHeartbeats 400000 in
theorem bytes10 (s : ByteArray) (w : World) (hs : s.size ≤ maxLen) : Calls Tryd.prog 10 #[.string s] w (Says (fun r => r = true → s.size ≤ 1048576) w) := by
  unfold maxLen at hs
  go_enter Tryd.func10, Tryd.ntmps10
  go_wp2
  all_goals go_ret
  all_goals refine ⟨_, rfl, rfl, ?_⟩
  all_goals first | (intro h; cases h; done) | (intro _; omega)

/-- Texts as cells. -/
def txt (l : List UInt8) : ByteArray := ⟨l.toArray⟩
def scells (ws : List (List UInt8)) : List Value := ws.map fun l => .string (txt l)
theorem scells_snoc (ws : List (List UInt8)) (l : List UInt8) : scells ws ++ [.string (txt l)] = scells (ws ++ [l]) := by simp [scells]
theorem scells_length (ws : List (List UInt8)) : (scells ws).length = ws.length := by simp [scells]
theorem txt_data (l : List UInt8) : (txt l).data.toList = l := rfl
theorem txt_size (l : List UInt8) : (txt l).size = l.length := by rw [Lib.size_eq]; rfl
theorem txt_of (b : ByteArray) : txt b.data.toList = b := Lib.mk_data b

theorem split16 (s : ByteArray) (m : Int) (w : World) (hs : s.size ≤ 1048576) (hm : w.cell? ⟨0, 0, none⟩ = some (.int .i64 m)) :
    Calls Tryd.prog 16 #[.string s, .string ⟨#[47]⟩] w fun e w' =>
      e = .returned (.slice (some ⟨w.heap.size, 0, none⟩) (parts 47 s.data.toList).length (parts 47 s.data.toList).length) ∧ w' = w.alloc (.cells (scells (parts 47 s.data.toList)).toArray 9) := by
  have h := Tryd.strings_Split s ⟨#[47]⟩ m w (by omega) hm (by decide)
  have hd : (Lib.splitB ⟨#[47]⟩ 0 (Lib.countB s ⟨#[47]⟩) s).map (·.data.toList) = parts 47 s.data.toList := (Lib.splitB_data ⟨#[47]⟩ 0 (Lib.countB s ⟨#[47]⟩) s).trans (splitK_parts 47 s.data.toList)
  have hv : (Lib.splitB ⟨#[47]⟩ 0 (Lib.countB s ⟨#[47]⟩) s).map Value.string = scells (parts 47 s.data.toList) := by
    unfold scells
    rw [← hd, List.map_map]
    exact List.map_congr_left fun x _ => by simp only [Function.comp_apply, txt_of]
  have hn : Lib.countB s ⟨#[47]⟩ + 1 = (parts 47 s.data.toList).length := by
    rw [parts_count]
    show Lib.count s.data.toList [47] + 1 = _
    rw [Lib.count_one]
  rw [hv, hn] at h
  exact h

/-- What the round's head knows. -/
def RmInv (segs fin : List (List UInt8)) (B : Nat) (W1 : World) (v i : Value) (wr : World) : Prop :=
  ∃ (k : Nat) (K : List (List UInt8)), k ≤ segs.length ∧ i = .int .i64 k ∧ wr.ownsRow B 9 1 v K.length (scells K) ∧ rmL (segs.drop k) K = fin ∧ K.length ≤ k ∧ Below B W1 wr

/-- 'kept = append(kept, x)', kept a row of the call's own. -/
theorem wpList_push9 {ops : Array Oper} {rest : List Oper} {o : Oper} {a : Act} {Q : Exit → Act → World → Prop} (hgd : o.guard = none) (s x : Operand)
    (ho : o.op = .call { callee := .builtin .append, args := #[s, x], argTypes := #[27, 27] })
    (B : Nat) (wr : World) (v : Value) (K : List (List UInt8)) (hs : a.eval s = v) (hx : a.eval x = .slice (some ⟨wr.heap.size, 0, none⟩) 1 1) (hown : wr.ownsRow B 9 1 v K.length (scells K)) (c : List UInt8) (cv : ByteArray) (hc : cv = txt c)
    (hl : K.length ≤ 1000000000) (W0 : World) (hW0 : B ≤ W0.heap.size) (hbel : Below B W0 wr)
    (h : ∀ v' w', w'.ownsRow B 9 1 v' (K ++ [c]).length (scells (K ++ [c])) → Below B W0 w' → wpList Tryd.prog ops Q rest (a.put o.dst v') w') :
    wpList Tryd.prog ops Q (o :: rest) a (wr.alloc (.cells #[.string cv] 9)) := by
  obtain ⟨i9, hi9, hz0, hz1, hz2⟩ := info_parts Tryd.info9
  subst hc
  have hBr : B ≤ wr.heap.size := Nat.le_trans hW0 hbel.size
  refine wpList_append_own _ hgd s x 27 ho B 9 i9 (.string ⟨#[]⟩) 1 16 Tryd.underlying27 hi9 hz0 hz1 hz2 rfl (by decide) v K.length (scells K) hs (hown.alloc _) ⟨wr.heap.size, 0, none⟩ 1 1 [.string (txt c)] hx rfl (cell_one_new _ _ _)
    (by intro u hu; simp at hu; subst hu; rfl) (by unfold maxLen; omega) (by omega) (by simp; omega) ?_
  intro v' w' h1 h2 _
  refine h v' w' ?_ ?_
  · rw [← scells_snoc, List.length_append]; exact h1
  · exact (hbel.alloc hBr _).grown h2 (by simp; omega) fun k e => (hown.lt k e).1

theorem join17 (K : List (List UInt8)) (g cap : Nat) {B : Nat} (w : World) (hown : w.ownsRow B 9 1 (.slice (some ⟨g, 0, none⟩) K.length cap) K.length (scells K)) (hlen : (Lib.join K [47]).length ≤ 2000000) (hK : K.length ≤ 1000000000) :
    Calls Tryd.prog 17 #[.slice (some ⟨g, 0, none⟩) K.length cap, .string ⟨#[47]⟩] w fun e w' => e = .returned (.string (txt (Lib.join K [47]))) ∧ Below w.heap.size w w' := by
  have hg : g < w.heap.size := (hown.lt g rfl).2
  have hcap : K.length ≤ cap := by
    rcases hown.2 with ⟨h0, _⟩ | ⟨g', cap', cur, hv, _, _, hn, _⟩
    · cases h0
    · cases hv; exact hn
  have em : (K.map txt).map (·.data.toList) = K := by
    rw [List.map_map]
    exact (List.map_congr_left fun x _ => txt_data x).trans (List.map_id K)
  have h := Tryd.strings_Join g 0 cap (K.map txt) ⟨#[47]⟩ w (fun j x hj => by
      have := hown.cells (g := g) rfl j (.string x) (by
        rw [List.getElem?_map] at hj
        obtain ⟨l, hl, rfl⟩ := Option.map_eq_some_iff.1 hj
        simp [scells, hl])
      rwa [Addr.add_lit] at this) hg (by rw [List.length_map]; omega) (by rw [List.length_map]; exact hcap) (by
      show (Lib.join ((K.map txt).map (·.data.toList)) [47]).length ≤ _
      rw [em]; omega)
  rw [List.length_map] at h
  refine h.mono fun e w' hh => ⟨hh.1.trans ?_, hh.2⟩
  show Ending.returned (.string ⟨(Lib.join ((K.map txt).map (·.data.toList)) [47]).toArray⟩) = _
  rw [em]; rfl

theorem slash_txt (l : List UInt8) : (⟨#[47]⟩ : ByteArray) ++ txt l = txt (47 :: l) := by
  rw [← txt_of (⟨#[47]⟩ ++ txt l), Joins.data_append]; rfl

theorem pop_row {w : World} {B : Nat} {v : Value} {K : List (List UInt8)} {x : List UInt8} (h : w.ownsRow B 9 1 v (K ++ [x]).length (scells (K ++ [x]))) :
    ∃ g cap, v = .slice (some ⟨g, 0, none⟩) (K.length + 1) cap ∧ K.length + 1 ≤ cap ∧ w.ownsRow B 9 1 (.slice (some ⟨g, 0, none⟩) K.length cap) K.length (scells K) := by
  rw [List.length_append, ← scells_snoc] at h
  have h' := h
  rcases h.2 with ⟨_, h0⟩ | ⟨g, cap, cur, rfl, _, _, hn, _⟩
  · simp at h0
  · exact ⟨g, cap, rfl, hn, ownsRow_pop (by rw [scells_length, Nat.mul_one]) h'⟩

theorem isEmpty_drop {l : List (List UInt8)} {k : Nat} (h : k < l.length) : (l.drop k).isEmpty = false := by
  rw [List.drop_eq_getElem_cons h]; rfl

set_option maxRecDepth 100000 in
set_option maxHeartbeats 1000000 in
theorem rm13_slash (p s : ByteArray) (m : Int) (w : World) (hp : p.size ≤ 1048576) (HP : Hid (p.data.toList = 47 :: s.data.toList)) (hm : w.cell? ⟨0, 0, none⟩ = some (.int .i64 m)) :
    Calls Tryd.prog 13 #[.string p] w fun e w' => e = .returned (.string (txt (flat 47 (keptOf s.data.toList)))) ∧ Below w.heap.size w w' := by
  obtain ⟨i9, hi9, hz90, hz91, hz92⟩ := info_parts Tryd.info9
  have hp1 : 1 ≤ p.size := by rw [Lib.size_eq, HP.out]; simp
  have es : p.extract 1 p.size = s := by
    rw [← txt_of (p.extract 1 p.size), ← txt_of s, Lib.extract_to_end, HP.out]; rfl
  have hs : s.size ≤ 1048576 := by
    have : s.size + 1 = p.size := by rw [Lib.size_eq, Lib.size_eq, HP.out]; simp
    omega
  have HSP := split16 s m w hs hm
  have H15 : Hid (Calls Tryd.prog 15 #[.string p, .string ⟨#[47]⟩] w fun e w' => e = .returned (.bool true) ∧ w = w') := by
    refine (Tryd.strings_HasPrefix p ⟨#[47]⟩ w).mono fun e w' hh => ⟨hh.1.trans ?_, hh.2.symm⟩
    show Ending.returned (.bool (Lib.hasPrefix p.data.toList [47])) = _
    rw [HP.out]
    rfl
  have HES : Hid (p.extract 1 p.size = s) := es
  clear hm es
  go_enter Tryd.func13, Tryd.ntmps13
  go_wp2_with fail
  refine H15.out.mono ?_
  rintro e w' ⟨rfl, rfl⟩
  go_wp2_with fail
  rw [HES.out]
  refine HSP.mono ?_
  rintro e w1 ⟨rfl, hw1⟩
  obtain ⟨segs, hsegs⟩ : ∃ segs, segs = parts 47 s.data.toList := ⟨_, rfl⟩
  have hkept : rmL segs [] = keptOf s.data.toList := by rw [hsegs]; rfl
  have hne : segs ≠ [] := by rw [hsegs]; exact parts_ne _ _
  have hnl : segs.length ≤ 1048577 := by
    rw [hsegs, parts_count]
    have := List.count_le_length (a := (47 : UInt8)) (l := s.data.toList)
    rw [← Lib.size_eq] at this
    omega
  rw [← hsegs] at hw1 ⊢
  obtain ⟨fin, hfin⟩ : ∃ fin, fin = keptOf s.data.toList := ⟨_, rfl⟩
  rw [← hfin] at hkept
  have hfl : (flat 47 fin).length ≤ 1048577 := by
    rw [hfin]
    have := keptOf_length s.data.toList
    rw [← Lib.size_eq] at this
    omega
  have HNE : Hid (segs ≠ []) := hne
  have HFL : Hid ((flat 47 fin).length ≤ 1048577) := hfl
  have HK : Hid (rmL segs [] = fin) := hkept
  have HFIN : Hid (fin = keptOf s.data.toList) := hfin
  have hrow : w1.heap[w.heap.size]? = some (.cells (scells segs).toArray 9 (0, 0)) := by rw [hw1]; exact heap_alloc_new w _
  have hs1 : w.heap.size + 1 ≤ w1.heap.size := by rw [hw1]; simp
  have HB1 : Hid (Below w.heap.size w w1) := by show Below w.heap.size w w1; rw [hw1]; exact (Below.refl _ _).alloc (Nat.le_refl _) _
  have HROW : Hid (∀ j x, segs[j]? = some x → w1.cell? ⟨w.heap.size, j, none⟩ = some (.string (txt x))) := by
    intro j x hj
    rw [cell_of_row w1 _ j _ 9 (0, 0) hrow]
    simp [scells, hj]
  clear hkept hne hfl hrow hw1 hsegs HSP H15 hfin
  go_wp2
  go_loopw [4, 17] (fun v i wr => RmInv segs fin (w.heap.size + 1) w1 v i wr) (fun _ i _ => segs.length - (intOf i).toNat)
  case atStart => exact ⟨0, [], Nat.zero_le _, rfl, World.ownsRow_nil _ _ _ _, HK.out, Nat.le_refl _, Below.refl _ _⟩
  case round =>
    obtain ⟨k, K, hk, rfl, hown, hrm, hKl, hbel⟩ := hrel
    by_cases hlt : k < segs.length
    · obtain ⟨seg, hseg⟩ : ∃ seg, seg = segs[k] := ⟨_, rfl⟩
      have hdr : segs.drop k = seg :: segs.drop (k + 1) := by rw [hseg]; exact List.drop_eq_getElem_cons hlt
      rw [hdr, rmL] at hrm
      obtain ⟨sg, hsg⟩ : ∃ sg, sg = txt seg := ⟨_, rfl⟩
      have hcell : wr.cell? ⟨w.heap.size, k, none⟩ = some (.string sg) := by
        rw [hbel.cell (p := ⟨w.heap.size, k, none⟩) (by simp), HROW.out k seg (by rw [hseg]; exact List.getElem?_eq_getElem hlt), hsg]
      have hlist : sg.toList = seg := by rw [Lib.toList_data, hsg]; rfl
      have HSG : Hid (sg = txt seg) := hsg
      clear hdr hsg hseg
      by_cases h46 : seg = [46]
      · have t1 : (sg.toList == [46]) = true := by rw [hlist, h46]; rfl
        by_cases hla : k + 1 = segs.length
        · have hlast : ((k : Int) == (segs.length : Int) - 1) = true := by rw [beq_iff_eq]; omega
          have HF : Hid (rmL (segs.drop (k + 1)) (K ++ [[]]) = fin) := by
            show _ = _
            rw [← hrm, keepStep, if_pos h46, List.drop_eq_nil_of_le (by omega)]; rfl
          clear hrm h46 hlist hla
          go_wp2_with (at_builtin; refine wpList_push9 rfl (.tmp 45) (.tmp 46) rfl (w.heap.size + 1) wr u4 _ rfl rfl hown [] _ rfl (by omega) w1 hs1 hbel ?_; intro v1 w2 hown1 hbel1)
          go_roundw
          case rel => exact ⟨k + 1, _, by omega, by go_num, hown1, HF.out, by simp; omega, hbel1⟩
          case measure => simp [intOf]; omega
        · have hlast : ((k : Int) == (segs.length : Int) - 1) = false := by rw [beq_eq_false_iff_ne]; omega
          have HF : Hid (rmL (segs.drop (k + 1)) K = fin) := by
            show _ = _
            rw [← hrm, keepStep, if_pos h46, isEmpty_drop (by omega)]; rfl
          clear hrm h46 hlist hla
          go_wp2
          go_roundw
          case rel => exact ⟨k + 1, _, by omega, by go_num, hown, HF.out, by omega, hbel⟩
          case measure => simp [intOf]; omega
      · by_cases h4646 : seg = [46, 46]
        · have t1 : (sg.toList == [46]) = false := by rw [hlist]; simpa using h46
          have t2 : (sg.toList == [46, 46]) = true := by rw [hlist, h4646]; rfl
          rw [keepStep, if_neg h46, if_pos h4646] at hrm
          clear h46 h4646 hlist
          rcases List.eq_nil_or_concat K with rfl | ⟨K0, x, rfl⟩
          · have hform : u4 = .slice none 0 0 ∨ ∃ g cap, u4 = .slice (some ⟨g, 0, none⟩) 0 cap := by
              rcases hown.2 with ⟨h0, _⟩ | ⟨g, cap, cur, h0, _⟩
              · exact .inl h0
              · exact .inr ⟨g, cap, h0⟩
            by_cases hla : k + 1 = segs.length
            · have hlast : ((k : Int) == (segs.length : Int) - 1) = true := by rw [beq_iff_eq]; omega
              have HF : Hid (rmL (segs.drop (k + 1)) ([] ++ [[]]) = fin) := by
                show _ = _
                rw [← hrm, List.drop_eq_nil_of_le (by omega)]; rfl
              clear hrm hla
              have HO : Hid (wr.ownsRow (w.heap.size + 1) 9 1 u4 ([] : List (List UInt8)).length (scells [])) := hown
              clear hown hKl
              rcases hform with rfl | ⟨g, cap, rfl⟩
              · go_wp2_with (at_builtin; refine wpList_push9 rfl (.tmp 45) (.tmp 46) rfl (w.heap.size + 1) wr (.slice none 0 0) [] rfl rfl HO.out [] _ rfl (by simp) w1 hs1 hbel ?_; intro v1 w2 hown1 hbel1)
                go_roundw
                case rel => exact ⟨k + 1, _, by omega, by go_num, hown1, HF.out, by simp, hbel1⟩
                case measure => simp [intOf]; omega
              · go_wp2_with (at_builtin; refine wpList_push9 rfl (.tmp 45) (.tmp 46) rfl (w.heap.size + 1) wr (.slice (some ⟨g, 0, none⟩) 0 cap) [] rfl rfl HO.out [] _ rfl (by simp) w1 hs1 hbel ?_; intro v1 w2 hown1 hbel1)
                go_roundw
                case rel => exact ⟨k + 1, _, by omega, by go_num, hown1, HF.out, by simp, hbel1⟩
                case measure => simp [intOf]; omega
            · have hlast : ((k : Int) == (segs.length : Int) - 1) = false := by rw [beq_eq_false_iff_ne]; omega
              have HF : Hid (rmL (segs.drop (k + 1)) [] = fin) := by
                show _ = _
                rw [← hrm, isEmpty_drop (by omega)]; rfl
              clear hrm hla
              rcases hform with rfl | ⟨g, cap, rfl⟩
              all_goals
                go_wp2
                go_roundw
                case rel => exact ⟨k + 1, _, by omega, by go_num, hown, HF.out, by simp, hbel⟩
                case measure => simp [intOf]; omega
          · rw [List.concat_eq_append] at hown hrm hKl
            rw [List.dropLast_concat] at hrm
            have hKl' : K0.length + 1 ≤ k := by simpa using hKl
            obtain ⟨g, cap, rfl, hcap, hown0⟩ := pop_row hown
            have hcap' : ((K0.length : Nat) : Int) ≤ (cap : Int) := by omega
            clear hown hKl
            by_cases hla : k + 1 = segs.length
            · have hlast : ((k : Int) == (segs.length : Int) - 1) = true := by rw [beq_iff_eq]; omega
              have HF : Hid (rmL (segs.drop (k + 1)) (K0 ++ [[]]) = fin) := by
                show _ = _
                rw [← hrm, List.drop_eq_nil_of_le (by omega)]; rfl
              clear hrm hla
              go_wp2_with (at_builtin; refine wpList_push9 rfl (.tmp 45) (.tmp 46) rfl (w.heap.size + 1) wr (.slice (some ⟨g, 0, none⟩) K0.length cap) K0 rfl rfl hown0 [] _ rfl (by omega) w1 hs1 hbel ?_; intro v1 w2 hown1 hbel1)
              go_roundw
              case rel => exact ⟨k + 1, _, by omega, by go_num, hown1, HF.out, by simp; omega, hbel1⟩
              case measure => simp [intOf]; omega
            · have hlast : ((k : Int) == (segs.length : Int) - 1) = false := by rw [beq_eq_false_iff_ne]; omega
              have HF : Hid (rmL (segs.drop (k + 1)) K0 = fin) := by
                show _ = _
                rw [← hrm, isEmpty_drop (by omega)]; rfl
              clear hrm hla
              go_wp2
              go_roundw
              case rel => exact ⟨k + 1, _, by omega, by go_num, hown0, HF.out, by omega, hbel⟩
              case measure => simp [intOf]; omega
        · have t1 : (sg.toList == [46]) = false := by rw [hlist]; simpa using h46
          have t2 : (sg.toList == [46, 46]) = false := by rw [hlist]; simpa using h4646
          have HF : Hid (rmL (segs.drop (k + 1)) (K ++ [seg]) = fin) := by
            show _ = _
            rw [← hrm, keepStep, if_neg h46, if_neg h4646]
          clear hrm h46 h4646 hlist
          go_wp2_with (at_builtin; refine wpList_push9 rfl (.tmp 28) (.tmp 30) rfl (w.heap.size + 1) wr u4 _ rfl rfl hown seg _ HSG.out (by omega) w1 hs1 hbel ?_; intro v1 w2 hown1 hbel1)
          go_roundw
          case rel => exact ⟨k + 1, _, by omega, by go_num, hown1, HF.out, by simp; omega, hbel1⟩
          case measure => simp [intOf]; omega
    · rw [List.drop_eq_nil_of_le (by omega), rmL] at hrm
      subst hrm
      have hKne : K ≠ [] := by rw [← HK.out]; exact rmL_ne _ _ HNE.out
      obtain ⟨g, cap, rfl⟩ : ∃ g cap, u4 = .slice (some ⟨g, 0, none⟩) K.length cap := by
        rcases hown.2 with ⟨_, h0⟩ | ⟨g, cap, cur, h0, _⟩
        · exact absurd (List.eq_nil_of_length_eq_zero h0) hKne
        · exact ⟨g, cap, h0⟩
      have hjl : (Lib.join K [47]).length ≤ 1048577 := by
        have := HFL.out
        rw [← join_flat K hKne] at this
        simp at this
        omega
      have HJ := join17 K g cap wr hown (by omega) (by omega)
      have hts : (txt (Lib.join K [47])).size ≤ 1048577 := by rw [txt_size]; exact hjl
      have HEQ : Hid ((⟨#[47]⟩ : ByteArray) ++ txt (Lib.join K [47]) = txt (flat 47 (keptOf s.data.toList))) := by
        show _ = _
        rw [slash_txt, join_flat K hKne, HFIN.out]
      clear hKne hjl hown
      go_wp2_with fail
      refine HJ.mono ?_
      rintro e w2 ⟨rfl, hb2⟩
      go_wp2
      go_ret
      refine ⟨?_, HB1.out.trans ((hbel.mono (by omega)).trans (hb2.mono (by have := hbel.size; omega)))⟩
      rw [← HEQ.out]
      rfl

set_option maxHeartbeats 400000 in
theorem rm13_plain (p : ByteArray) (w : World) (HP : Hid (Lib.hasPrefix p.data.toList [47] = false)) :
    Calls Tryd.prog 13 #[.string p] w fun e w' => e = .returned (.string p) ∧ Below w.heap.size w w' := by
  have H15 : Hid (Calls Tryd.prog 15 #[.string p, .string ⟨#[47]⟩] w fun e w' => e = .returned (.bool false) ∧ w = w') := by
    refine (Tryd.strings_HasPrefix p ⟨#[47]⟩ w).mono fun e w' hh => ⟨hh.1.trans ?_, hh.2.symm⟩
    show Ending.returned (.bool (Lib.hasPrefix p.data.toList [47])) = _
    rw [HP.out]
  go_enter Tryd.func13, Tryd.ntmps13
  go_wp2_with fail
  refine H15.out.mono ?_
  rintro e w' ⟨rfl, rfl⟩
  go_wp2
  go_ret
  exact ⟨rfl, Below.refl _ _⟩

/-- A path with its dot segments removed. -/
def rmB (p : ByteArray) : ByteArray := txt (rmDots p.data.toList)

theorem rm13 (p : ByteArray) (m : Int) (w : World) (hp : p.size ≤ 1048576) (hm : w.cell? ⟨0, 0, none⟩ = some (.int .i64 m)) :
    Calls Tryd.prog 13 #[.string p] w fun e w' => e = .returned (.string (rmB p)) ∧ Below w.heap.size w w' := by
  unfold rmB
  cases e : p.data.toList with
  | nil =>
    have h : Lib.hasPrefix p.data.toList [47] = false := by rw [e]; rfl
    have e2 : txt (rmDots []) = p := by rw [← txt_of p, e]; rfl
    rw [e2]
    exact rm13_plain p w h
  | cons c l =>
    by_cases hc : c = 47
    · subst hc
      have e2 : rmDots (47 :: l) = flat 47 (keptOf l) := by rw [rmDots, if_pos rfl]
      rw [e2]
      exact rm13_slash p (txt l) m w hp e hm
    · have h : Lib.hasPrefix p.data.toList [47] = false := by
        rw [e]
        simp [Lib.hasPrefix, List.isPrefixOf, Ne.symm hc]
      have e2 : txt (rmDots (c :: l)) = p := by rw [rmDots, if_neg hc, ← e, txt_of]
      rw [e2]
      exact rm13_plain p w h

set_option maxHeartbeats 400000 in
theorem rm7 (p : ByteArray) (m : Int) (w : World) (hp : p.size ≤ 1048576) (hm : w.cell? ⟨0, 0, none⟩ = some (.int .i64 m)) :
    Calls Tryd.prog 7 #[.string p] w fun e w' => e = .returned (.string (rmB p)) ∧ Below w.heap.size w w' := by
  have H := rm13 p m w hp hm
  clear hm
  go_enter Tryd.func7, Tryd.ntmps7
  go_wp2_with fail
  refine H.mono ?_
  rintro e w' ⟨rfl, hb⟩
  go_wp2
  go_ret
  exact ⟨rfl, hb⟩
end Go.Proofs.Qxb6602632aDoor
