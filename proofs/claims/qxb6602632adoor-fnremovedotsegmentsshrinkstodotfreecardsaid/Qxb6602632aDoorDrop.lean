/-
  The walk of zzDropLastSegment (function 14); rows of bytes of the call's own.
-/
import Derived.Test.Qxb6602632aDoorRemove
namespace Go.Proofs.Qxb6602632aDoor
open Go.RowKit

theorem Tryd.info5 : (Tryd.prog.info? 5).map (fun i => (i.zero, i.size, i.bytes)) = some (some (.int .u8 0), 1, 1) := by kernel_rfl
/-- Bytes as cells. -/
def bcells (l : List UInt8) : List Value := l.map fun b => .int .u8 (b.toNat : Int)
theorem bcells_snoc (l : List UInt8) (c : UInt8) : bcells l ++ [.int .u8 (c.toNat : Int)] = bcells (l ++ [c]) := by simp [bcells]
theorem bcells_length (l : List UInt8) : (bcells l).length = l.length := by simp [bcells]
theorem bcells_append (a b : List UInt8) : bcells (a ++ b) = bcells a ++ bcells b := by simp [bcells]

/-- 'out = append(out, c)', out a row of the call's own. -/
theorem wpList_push {ops : Array Oper} {rest : List Oper} {o : Oper} {a : Act} {Q : Exit → Act → World → Prop} (hgd : o.guard = none) (s x : Operand)
    (ho : o.op = .call { callee := .builtin .append, args := #[s, x], argTypes := #[24, 24] })
    (B : Nat) (wr : World) (v : Value) (l : List UInt8) (hs : a.eval s = v) (hx : a.eval x = .slice (some ⟨wr.heap.size, 0, none⟩) 1 1) (hown : wr.ownsRow B 5 1 v l.length (bcells l)) (c : UInt8) (cv : Int) (hc : cv = (c.toNat : Int))
    (hl : l.length ≤ 1000000000) (W0 : World) (hW0 : B ≤ W0.heap.size) (hbel : Below B W0 wr)
    (h : ∀ v' w', w'.ownsRow B 5 1 v' (l ++ [c]).length (bcells (l ++ [c])) → Below B W0 w' → wpList Tryd.prog ops Q rest (a.put o.dst v') w') :
    wpList Tryd.prog ops Q (o :: rest) a (wr.alloc (.cells #[.int .u8 cv] 5)) := by
  obtain ⟨i5, hi5, hz50, hz51, hz52⟩ := info_parts Tryd.info5
  subst hc
  have hBr : B ≤ wr.heap.size := Nat.le_trans hW0 hbel.size
  refine wpList_append_own _ hgd s x 24 ho B 5 i5 (.int .u8 0) 1 1 Tryd.underlying24 hi5 hz50 hz51 hz52 rfl (by decide) v l.length (bcells l) hs (hown.alloc _) ⟨wr.heap.size, 0, none⟩ 1 1 [.int .u8 (c.toNat : Int)] hx rfl (cell_one_new _ _ _)
    (by intro u hu; simp at hu; subst hu; rfl) (by unfold maxLen; omega) (by omega) (by simp; omega) ?_
  intro v' w' h1 h2 _
  refine h v' w' ?_ ?_
  · rw [← bcells_snoc, List.length_append]; exact h1
  · exact (hbel.alloc hBr _).grown h2 (by simp; omega) fun k e => (hown.lt k e).1

/-- string(b), b a row of bytes of the call's own. -/
theorem convert_own {w : World} {base : Nat} {v : Value} {l : List UInt8} (h : w.ownsRow base 5 1 v l.length (bcells l)) : (convert 24 9 v).run Tryd.prog w = .ok (.string (txt l)) w := by
  rcases h.2 with ⟨rfl, h0⟩ | ⟨g, cap, cur, rfl, _⟩
  · have e : l = [] := List.eq_nil_of_length_eq_zero h0
    subst e
    exact run_convert_bytes_nil w 24 5 Tryd.underlying24 Tryd.underlying5 0 0 9 Tryd.underlying9
  · exact run_convert_bytes_back w 24 9 5 ⟨g, 0, none⟩ cap l Tryd.underlying24 Tryd.underlying5 Tryd.underlying9 fun j hj => h.cells (g := g) rfl j _ (by simp [bcells, hj])

/-- A row, shortened. -/
theorem own_take {w : World} {B g cap : Nat} {a b : List UInt8} (h : w.ownsRow B 5 1 (.slice (some ⟨g, 0, none⟩) (a ++ b).length cap) (a ++ b).length (bcells (a ++ b))) :
    w.ownsRow B 5 1 (.slice (some ⟨g, 0, none⟩) a.length cap) a.length (bcells a) := by
  obtain ⟨_, h2⟩ := h
  rcases h2 with ⟨h0, _⟩ | ⟨g', cap', cur, hv, hg, hh, hn, hcap, hsz, htake⟩
  · cases h0
  · cases hv
    refine ⟨by rw [bcells_length, Nat.mul_one], .inr ⟨g, cap, cur, rfl, hg, hh, by simp at hn; omega, hcap, hsz, ?_⟩⟩
    rw [Nat.mul_one] at htake ⊢
    have h3 := congrArg (List.take a.length) htake
    rw [List.take_take, Nat.min_eq_left (by simp), bcells_append] at h3
    rw [h3]
    exact List.take_left' (bcells_length a)

/-- It hands back a row of the call's own that holds l; the world is as it was. -/
def Hands (B : Nat) (l : List UInt8) (w : World) (e : Ending) (w' : World) : Prop := ∃ v, e = .returned v ∧ w = w' ∧ w.ownsRow B 5 1 v l.length (bcells l)

set_option maxHeartbeats 400000 in
theorem drop14_nil (v : Value) (B : Nat) (w : World) (h : w.ownsRow B 5 1 v ([] : List UInt8).length (bcells [])) : Calls Tryd.prog 14 #[v] w (Hands B [] w) := by
  have HO : Hid (w.ownsRow B 5 1 v ([] : List UInt8).length (bcells [])) := h
  have hform : v = .slice none 0 0 ∨ ∃ g cap, v = .slice (some ⟨g, 0, none⟩) 0 cap := by
    rcases h.2 with ⟨h0, _⟩ | ⟨g, cap, cur, h0, _⟩
    · exact .inl h0
    · exact .inr ⟨g, cap, h0⟩
  clear h
  rcases hform with rfl | ⟨g, cap, rfl⟩
  all_goals
    go_enter Tryd.func14, Tryd.ntmps14
    go_wp2
    go_loop [3] (fun k => k = .int .i64 (-1)) (fun _ => 0)
    case atStart => rfl
    case round =>
      subst hrel
      go_wp2
      go_ret
      exact ⟨_, rfl, rfl, HO.out⟩

theorem at_mid {a t : List UInt8} {j : Nat} (ht : (47 : UInt8) ∉ t) (h1 : a.length < j) (h2 : j < (a ++ 47 :: t).length) : ∃ c : UInt8, (a ++ 47 :: t)[j]? = some c ∧ c ≠ 47 := by
  refine ⟨(a ++ 47 :: t)[j], List.getElem?_eq_getElem h2, ?_⟩
  intro e
  apply ht
  rw [List.getElem_append_right (by omega)] at e
  obtain ⟨i, hi⟩ : ∃ i, j - a.length = i + 1 := ⟨j - a.length - 1, by omega⟩
  simp only [hi, List.getElem_cons_succ] at e
  rw [← e]
  exact List.getElem_mem _

set_option maxRecDepth 100000 in
set_option maxHeartbeats 400000 in
theorem drop14 (v : Value) (B : Nat) (a t : List UInt8) (w : World) (ht : Hid ((47 : UInt8) ∉ t)) (hl : (a ++ 47 :: t).length ≤ 1000000000) (h : w.ownsRow B 5 1 v (a ++ 47 :: t).length (bcells (a ++ 47 :: t))) : Calls Tryd.prog 14 #[v] w (Hands B a w) := by
  obtain ⟨g, cap, rfl, hcap⟩ : ∃ g cap, v = .slice (some ⟨g, 0, none⟩) (a ++ 47 :: t).length cap ∧ (a ++ 47 :: t).length ≤ cap := by
    rcases h.2 with ⟨_, h0⟩ | ⟨g, cap, cur, h0, _, _, hn, _⟩
    · simp at h0
    · exact ⟨g, cap, h0, hn⟩
  have HT : Hid (w.ownsRow B 5 1 (.slice (some ⟨g, 0, none⟩) a.length cap) a.length (bcells a)) := own_take h
  have HC : Hid (∀ (j : Nat) (c : UInt8), (a ++ 47 :: t)[j]? = some c → w.cell? ⟨g, j, none⟩ = some (.int .u8 (c.toNat : Int))) := by
    intro j c hj
    have := h.cells (g := g) rfl j (.int .u8 (c.toNat : Int)) (by rw [bcells, List.getElem?_map, hj]; rfl)
    rwa [Addr.add_lit, Nat.zero_add] at this
  obtain ⟨n, hn⟩ : ∃ n, n = (a ++ 47 :: t).length := ⟨_, rfl⟩
  have hna : a.length < n := by rw [hn]; simp
  have HN : Hid (n = (a ++ 47 :: t).length) := hn
  rw [← hn] at hl hcap ⊢
  clear hn h
  go_enter Tryd.func14, Tryd.ntmps14
  go_wp2
  go_loop [3] (fun k => ∃ j : Nat, a.length ≤ j ∧ j < n ∧ k = .int .i64 j) (fun k => (intOf k).toNat)
  case atStart => exact ⟨n - 1, by omega, by omega, by go_num⟩
  case round =>
    obtain ⟨j, h1, h2, rfl⟩ := hrel
    by_cases he : a.length = j
    · subst he
      have hc := HC.out a.length 47 (by simp)
      have hc' : w.cell? ⟨g, a.length, none⟩ = some (.int .u8 47) := hc
      clear hc
      go_wp2
      all_goals go_ret
      all_goals exact ⟨_, rfl, rfl, HT.out⟩
    · obtain ⟨c, hc1, hc2⟩ := at_mid ht.out (show a.length < j by omega) (show j < (a ++ 47 :: t).length by rw [← HN.out]; exact h2)
      have hc := HC.out j c hc1
      have hne : ((c.toNat : Int) == 47) = false := by
        rw [beq_eq_false_iff_ne]
        intro e
        exact hc2 (UInt8.toNat_inj.1 (by show c.toNat = 47; omega))
      clear hc1 hc2
      go_wp2
      go_round
      case rel => exact ⟨j - 1, by omega, by omega, by go_num⟩
      case measure => simp [intOf]; omega
end Go.Proofs.Qxb6602632aDoor
