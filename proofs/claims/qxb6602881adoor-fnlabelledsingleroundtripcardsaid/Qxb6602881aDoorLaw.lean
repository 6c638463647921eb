/-
  FnLabelledSingleRoundTrip (function 3).
-/
import Derived.Test.Qxb6602881aDoorLabelled
import Derived.Test.Qxb6602881aDoorLabels
import Derived.Lib.SliceRun
namespace Go.Proofs.Qxb6602881aDoor
open Go.RowKit

set_option maxRecDepth 100000 in
set_option maxHeartbeats 2000000 in
theorem law3 (a b : ByteArray) (m : Int) (w : World) (hs : a.size ≤ maxLen) (ht : b.size ≤ maxLen) (hm : w.cell? ⟨0, 0, none⟩ = some (.int .i64 m)) :
    Calls Tryd.prog 3 #[.string a, .string b] w fun e w' => e = .returned (.bool true) ∧ Below w.heap.size w w' := by
  have HM : Hid (w.cell? ⟨0, 0, none⟩ = some (.int .i64 m)) := hm
  have lm : 0 < w.heap.size := World.block_lt_of_cell? w _ hm
  have H5 := bytes5 a b w hs ht
  clear hm
  unfold maxLen at hs ht
  go_enter Tryd.func3, Tryd.ntmps3
  go_wp2_with fail
  refine H5.mono ?_
  rintro e w' ⟨r, rfl, rfl, hr⟩
  clear H5
  cases r
  · clear hr; go_wp2; go_ret; exact ⟨rfl, Below.refl _ _⟩
  · have hp : a.size + b.size ≤ 1048576 := hr rfl
    clear hr
    have H7 := make7 a b w
    go_wp2_with fail
    refine H7.mono ?_
    rintro e W1 ⟨rfl, hB1⟩
    have HB1 : Hid (Below w.heap.size w W1) := hB1
    clear H7 hB1
    have H6 : Hid (Calls Tryd.prog 6 #[.slice (some ⟨W1.heap.size, 0, none⟩) 1 1] (W1.alloc (.cells #[.string a, .string b] 26)) (Lab a b (W1.alloc (.cells #[.string a, .string b] 26)))) := by
      refine labelled6 a b W1.heap.size m _ (by omega) (by simp) (by simp) ?_
      have h1 := ((Below.refl W1.heap.size W1).alloc (Nat.le_refl _) (.cells #[.string a, .string b] 26)).cell (p := ⟨0, 0, none⟩) (Nat.lt_of_lt_of_le lm HB1.out.size)
      rw [h1, HB1.out.cell (p := ⟨0, 0, none⟩) lm]
      exact HM.out
    have HBA : Hid (Below w.heap.size w (W1.alloc (.cells #[.string a, .string b] 26))) := HB1.out.alloc HB1.out.size _
    go_wp2_with fail
    refine H6.out.mono ?_
    rintro e W3 hL
    clear H6
    have HB3 : Hid (Below w.heap.size w W3) := HBA.out.trans (hL.1.mono HBA.out.size)
    clear HBA HB1 HM
    have H8 := has8 a W3 (by omega)
    rcases hL with ⟨_, ⟨hR, rfl⟩ | ⟨hR, g, cap, lb, rfl, hg0, hg1, hlb⟩⟩
    · rw [hR] at H8
      clear hR
      go_wp2_with fail
      refine H8.mono ?_
      rintro e W4 ⟨rfl, rfl⟩
      clear H8
      have he := Lib.run_eql_slice_nil (P := Tryd.prog) W3 23 32 none 0 0 0 0 Tryd.underlying23
      go_wp2
      go_ret
      exact ⟨rfl, HB3.out⟩
    · rw [hR] at H8
      clear hR
      obtain ⟨L, hL⟩ : ∃ L, L = (parts 44 b.data.toList).length := ⟨_, rfl⟩
      rw [← hL] at hg1
      have HL : Hid (L = (parts 44 b.data.toList).length) := hL
      have HLB : Hid (∀ j x, (parts 44 b.data.toList)[j]? = some x → W3.cell? ⟨lb, j, none⟩ = some (.string (txt x))) := hlb
      clear hL hlb
      go_wp2_with fail
      refine H8.mono ?_
      rintro e W4 ⟨rfl, rfl⟩
      clear H8
      go_wp2
      go_loop [7, 8] (fun vc vk => ∃ k c : Nat, k ≤ b.size ∧ c ≤ k ∧ vc = .int .i64 c ∧ vk = .int .i64 k ∧ (b.data.toList.take k).count 44 = c) (fun _ vk => b.size - (intOf vk).toNat)
      case atStart => exact ⟨0, 0, Nat.zero_le _, Nat.le_refl _, rfl, rfl, rfl⟩
      case round =>
        obtain ⟨k, c, hk, hck, rfl, rfl, hc⟩ := hrel
        by_cases hlt : k < b.size
        · by_cases h44 : b[k] = 44
          · have a1 : ((b[k].toNat : Int) == 44) = true := by rw [h44]; rfl
            have HC : Hid ((b.data.toList.take (k + 1)).count 44 = c + 1) := by
              show _ = _
              rw [take_snoc b k hlt, List.count_append, hc, h44]
              rfl
            clear hc h44
            go_wp2
            go_round
            case rel => exact ⟨k + 1, c + 1, by omega, by omega, by go_num, by go_num, HC.out⟩
            case measure => simp [intOf]; omega
          · have a1 : ((b[k].toNat : Int) == 44) = false := ne_byte h44
            have HC : Hid ((b.data.toList.take (k + 1)).count 44 = c) := by
              show _ = _
              rw [take_snoc b k hlt, List.count_append, hc]
              have : List.count 44 [b[k]] = 0 := by rw [List.count_eq_zero]; simpa using Ne.symm h44
              omega
            clear hc h44
            go_wp2
            go_round
            case rel => exact ⟨k + 1, c, by omega, by omega, by go_num, by go_num, HC.out⟩
            case measure => simp [intOf]; omega
        · have hLc : L = c + 1 := by
            rw [HL.out, parts_count, ← hc, List.take_of_length_le (by rw [← Lib.size_eq]; omega)]
          clear hc
          subst hLc
          have hk' : k = b.size := by omega
          subst hk'
          go_wp2
          go_loop [9, 10] (fun vp vj => ∃ j pos : Nat, j ≤ c + 1 ∧ pos ≤ b.size ∧ vp = .int .i64 pos ∧ vj = .int .i64 j ∧ pos = posOf b.data.toList j) (fun _ vj => c + 1 - (intOf vj).toNat)
          case atStart => exact ⟨0, 0, Nat.zero_le _, Nat.zero_le _, rfl, rfl, rfl⟩
          case round =>
            obtain ⟨j, pos, hj, hpos, rfl, rfl, hpp⟩ := hrel
            by_cases hjl : j < c + 1
            · obtain ⟨x, hx⟩ : ∃ x, (parts 44 b.data.toList)[j]? = some x := ⟨_, List.getElem?_eq_getElem (by rw [← HL.out]; exact hjl)⟩
              have hcell := HLB.out j x hx
              have hfree : (44 : UInt8) ∉ x := parts_free 44 b.data.toList x (List.mem_of_getElem? hx)
              obtain ⟨t, ht⟩ : ∃ t, t = txt x := ⟨_, rfl⟩
              rw [← ht] at hcell
              have htd : t.data.toList = x := by rw [ht, txt_data]
              have HTF : Hid (∀ n (h : n < t.size), t[n] ≠ 44) := fun n h e => hfree (by rw [← htd, ← e]; exact List.mem_of_getElem? (byte_at t n h))
              by_cases hj0 : j = 0
              · subst hj0
                obtain ⟨rest, hv, hp1⟩ := label_first b.data.toList x hx
                rw [posOf_zero] at hpp
                subst hpp
                have htl : t.size ≤ b.size := by rw [Lib.size_eq, Lib.size_eq, htd, hv]; simp
                have HP1 : Hid (t.size = posOf b.data.toList (0 + 1)) := by show _ = _; rw [hp1, Lib.size_eq, htd]
                have hE : ((b.extract 0 t.size).toList == t.toList) = true := by
                  rw [Lib.extract_toList, Lib.toList_data, beq_iff_eq, htd, hv, Lib.size_eq, htd]
                  simp
                clear hx hfree ht htd hv hp1
                go_wp2
                go_loop [12] (fun vn => ∃ n : Nat, n ≤ t.size ∧ vn = .int .i64 n) (fun vn => t.size - (intOf vn).toNat)
                case atStart => exact ⟨0, Nat.zero_le _, rfl⟩
                case round =>
                  obtain ⟨n, hn, rfl⟩ := hrel
                  by_cases hnl : n < t.size
                  · have a1 : ((t[n].toNat : Int) == 44) = false := ne_byte (HTF.out n hnl)
                    go_wp2
                    go_round
                    case rel => exact ⟨n + 1, by omega, by go_num⟩
                    case measure => simp [intOf]; omega
                  · have hn' : n = t.size := by omega
                    subst hn'
                    go_wp2
                    go_round
                    case rel => exact ⟨1, t.size, by omega, htl, by go_num, by go_num, HP1.out⟩
                    case measure => simp [intOf]
              · have hj1 : 0 < j := by omega
                obtain ⟨u, rest, hv, hu, hp1⟩ := label_next b.data.toList j x hj1 hx
                rw [← hpp] at hu hp1
                have hvd : b.data.toList.drop pos = 44 :: (x ++ rest) := by rw [hv, ← hu, List.drop_left]
                have hvd1 : b.data.toList.drop (pos + 1) = x ++ rest := by rw [← List.drop_drop, hvd]; rfl
                have hsz : b.size = pos + 1 + t.size + rest.length := by rw [Lib.size_eq b, Lib.size_eq t, htd, hv, ← hu]; simp; omega
                have hpl : pos < b.size := by omega
                have hle : pos + 1 + t.size ≤ b.size := by omega
                have hb44 : b[pos] = 44 := by
                  have h1 := byte_at b pos hpl
                  have h2 : b.data.toList[pos]? = some 44 := by
                    have h3 : (b.data.toList.drop pos)[0]? = some 44 := by rw [hvd]; rfl
                    rw [List.getElem?_drop] at h3
                    exact h3
                  rw [h1] at h2
                  exact Option.some.inj h2
                have q44 : ((b[pos].toNat : Int) != 44) = false := by rw [hb44]; rfl
                have HP1 : Hid (pos + 1 + t.size = posOf b.data.toList (j + 1)) := by show _ = _; rw [hp1, Lib.size_eq t, htd]
                have hE : ((b.extract (pos + 1) (pos + 1 + t.size)).toList == t.toList) = true := by
                  rw [Lib.extract_toList, Lib.toList_data, beq_iff_eq, hvd1, htd, Nat.add_sub_cancel_left, Lib.size_eq t, htd, List.take_left]
                clear hx hfree ht htd hv hp1 hu hvd hvd1 hb44 hj0 hpp hsz
                go_wp2
                go_loop [12] (fun vn => ∃ n : Nat, n ≤ t.size ∧ vn = .int .i64 n) (fun vn => t.size - (intOf vn).toNat)
                case atStart => exact ⟨0, Nat.zero_le _, rfl⟩
                case round =>
                  obtain ⟨n, hn, rfl⟩ := hrel
                  by_cases hnl : n < t.size
                  · have a1 : ((t[n].toNat : Int) == 44) = false := ne_byte (HTF.out n hnl)
                    go_wp2
                    go_round
                    case rel => exact ⟨n + 1, by omega, by go_num⟩
                    case measure => simp [intOf]; omega
                  · have hn' : n = t.size := by omega
                    subst hn'
                    go_wp2
                    go_round
                    case rel => exact ⟨j + 1, pos + 1 + t.size, by omega, hle, by go_num, by go_num, HP1.out⟩
                    case measure => simp [intOf]; omega
            · have hj' : j = c + 1 := by omega
              subst hj'
              have hend : pos = b.size := by rw [hpp, HL.out, posOf_end, ← Lib.size_eq]
              clear hpp
              subst hend
              go_wp2
              go_ret
              exact ⟨rfl, HB3.out⟩
end Go.Proofs.Qxb6602881aDoor
