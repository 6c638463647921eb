/-
  The walk of zzRFCRemoveDotSegments (function 8).
-/
import Derived.Test.Qxb6602632aDoorDrop
namespace Go.Proofs.Qxb6602632aDoor
open Go.RowKit

/-- The bytes behind place i. -/
theorem byte_from {p : ByteArray} {i : Nat} {L : List UInt8} (h : p.data.toList.drop i = L) (j : Nat) (c : UInt8) (hj : L[j]? = some c) : ∃ hlt : i + j < p.size, p[i + j] = c := by
  have hl : j < L.length := (List.getElem?_eq_some_iff.1 hj).1
  have hlt : i + j < p.size := by
    have := congrArg List.length h
    rw [List.length_drop, ← Lib.size_eq] at this
    omega
  refine ⟨hlt, ?_⟩
  have h1 : p.data.toList[i + j]? = some c := by rw [← h, List.getElem?_drop] at hj; exact hj
  rw [List.getElem?_eq_getElem (by simpa using hlt), Option.some.injEq] at h1
  exact h1
theorem size_from {p : ByteArray} {i : Nat} {L : List UInt8} (h : p.data.toList.drop i = L) (hi : i ≤ p.size) : p.size = i + L.length := by
  have := congrArg List.length h
  rw [List.length_drop, ← Lib.size_eq] at this
  omega
theorem drop_from {p : ByteArray} {i : Nat} {a b : List UInt8} (h : p.data.toList.drop i = a ++ b) : p.data.toList.drop (i + a.length) = b := by
  rw [← List.drop_drop, h, List.drop_left]

theorem eq_byte {c : UInt8} {n : Nat} [OfNat UInt8 n] (h : c = OfNat.ofNat n) (hn : (OfNat.ofNat n : UInt8).toNat = n := by rfl) : (c.toNat : Int) ≤ (n : Int) ∧ (n : Int) ≤ (c.toNat : Int) := by
  have : c.toNat = n := by rw [h]; exact hn
  omega
theorem ne_byte {c : UInt8} {n : Nat} [OfNat UInt8 n] (h : c ≠ OfNat.ofNat n) (hn : (OfNat.ofNat n : UInt8).toNat = n := by rfl) : ((c.toNat : Int) == (n : Int)) = false := by
  rw [beq_eq_false_iff_ne]
  intro e
  exact h (UInt8.toNat_inj.1 (by omega))

/-- What the round's head knows. -/
def RfcInv (p : ByteArray) (fin : List (List UInt8)) (B : Nat) (W1 : World) (v iv : Value) (wr : World) : Prop :=
  ∃ (i : Nat) (segs K : List (List UInt8)), i ≤ p.size ∧ iv = .int .i64 i ∧ p.data.toList.drop i = flat 47 segs ∧ wr.ownsRow B 5 1 v (flat 47 K).length (bcells (flat 47 K)) ∧ rmL segs K = fin ∧
    (∀ x ∈ segs, (47 : UInt8) ∉ x) ∧ (∀ x ∈ K, (47 : UInt8) ∉ x) ∧ (flat 47 K).length ≤ i ∧ Below B W1 wr

theorem flat_snoc (K : List (List UInt8)) (x : List UInt8) : flat 47 (K ++ [x]) = flat 47 K ++ 47 :: x := by rw [flat_append, flat_one]
theorem flat_snoc_nil (K : List (List UInt8)) : flat 47 K ++ [47] = flat 47 (K ++ [[]]) := by rw [flat_snoc]

/-- The last segment dropped, whatever is kept. -/
theorem drop14_kept (v : Value) (B : Nat) (K : List (List UInt8)) (w : World) (hK : ∀ x ∈ K, (47 : UInt8) ∉ x) (hl : (flat 47 K).length ≤ 1000000000) (h : w.ownsRow B 5 1 v (flat 47 K).length (bcells (flat 47 K))) : Calls Tryd.prog 14 #[v] w (Hands B (flat 47 K.dropLast) w) := by
  rcases List.eq_nil_or_concat K with rfl | ⟨K0, x, rfl⟩
  · exact drop14_nil v B w h
  · rw [List.concat_eq_append] at h hl hK ⊢
    rw [List.dropLast_concat]
    rw [flat_snoc] at h hl
    exact drop14 v B (flat 47 K0) x w (hK x (by simp)) hl h

/-- A segment that is no dot segment: which bytes tell it. -/
theorem other_seg {p : ByteArray} {i : Nat} {seg : List UInt8} {more : List (List UInt8)} (h : p.data.toList.drop i = flat 47 (seg :: more)) (hf : (47 : UInt8) ∉ seg) (h1 : seg ≠ [46]) (h2 : seg ≠ [46, 46]) (hi : i ≤ p.size) :
    p.size ≤ i + 1 ∨ (∃ hlt : i + 1 < p.size, p[i + 1] ≠ 46) ∨ (∃ (_ : i + 1 < p.size) (_ : i + 2 < p.size), p[i + 1] = 46 ∧ p[i + 2] ≠ 46 ∧ p[i + 2] ≠ 47) ∨
      (∃ (_ : i + 1 < p.size) (_ : i + 2 < p.size) (_ : i + 3 < p.size), p[i + 1] = 46 ∧ p[i + 2] = 46 ∧ p[i + 3] ≠ 47) := by
  have hsz := size_from h hi
  rw [flat] at h hsz
  match seg, hf, h1, h2, h, hsz with
  | [], _, _, _, h, hsz =>
    match more, h, hsz with
    | [], _, hsz => left; simp [flat] at hsz; omega
    | s2 :: m2, h, _ =>
      obtain ⟨hlt, hc⟩ := byte_from h 1 47 (by simp [flat])
      exact .inr (.inl ⟨hlt, by rw [hc]; decide⟩)
  | c :: r, hf, h1, h2, h, _ =>
    obtain ⟨hlt, hc⟩ := byte_from h 1 c (by simp)
    by_cases e1 : c = 46
    · subst e1
      match r, hf, h1, h2, h with
      | [], _, h1, _, _ => exact absurd rfl h1
      | c2 :: r2, hf, _, h2, h =>
        obtain ⟨hlt2, hc2⟩ := byte_from h 2 c2 (by simp)
        by_cases e2 : c2 = 46
        · subst e2
          match r2, hf, h2, h with
          | [], _, h2, _ => exact absurd rfl h2
          | c3 :: r3, hf, _, h =>
            obtain ⟨hlt3, hc3⟩ := byte_from h 3 c3 (by simp)
            exact .inr (.inr (.inr ⟨hlt, hlt2, hlt3, hc, hc2, by rw [hc3]; intro e; subst e; simp at hf⟩))
        · exact .inr (.inr (.inl ⟨hlt, hlt2, hc, by rw [hc2]; exact e2, by rw [hc2]; intro e; subst e; simp at hf⟩))
    · exact .inr (.inl ⟨hlt, by rw [hc]; exact e1⟩)

/-- What the inner loop's head knows. -/
def SegInv (i : Nat) (seg pre : List UInt8) (B : Nat) (W1 : World) (v jv : Value) (wr : World) : Prop :=
  ∃ n : Nat, n ≤ seg.length ∧ jv = .int .i64 (i + 1 + n : Nat) ∧ wr.ownsRow B 5 1 v (pre ++ 47 :: seg.take n).length (bcells (pre ++ 47 :: seg.take n)) ∧ Below B W1 wr
theorem seg_byte {p : ByteArray} {i n : Nat} {seg : List UInt8} {more : List (List UInt8)} (h : p.data.toList.drop i = flat 47 (seg :: more)) (hf : (47 : UInt8) ∉ seg) (hn : n < seg.length) :
    ∃ hlt : i + 1 + n < p.size, seg.take n ++ [p[i + 1 + n]] = seg.take (n + 1) ∧ p[i + 1 + n] ≠ 47 := by
  obtain ⟨hlt, hc⟩ := byte_from h (1 + n) seg[n] (by
    rw [flat, Nat.add_comm, List.getElem?_cons_succ, List.getElem?_append_left hn]
    exact List.getElem?_eq_getElem hn)
  have hlt' : i + 1 + n < p.size := by omega
  have e : p[i + 1 + n] = seg[n] := by rw [← hc]; congr 1; omega
  refine ⟨hlt', ?_, ?_⟩
  · rw [e, List.take_succ_eq_append_getElem hn]
  · rw [e]
    intro e2
    exact hf (e2 ▸ List.getElem_mem hn)
theorem seg_end {p : ByteArray} {i : Nat} {seg : List UInt8} {more : List (List UInt8)} (h : p.data.toList.drop i = flat 47 (seg :: more)) (hlt : i + 1 + seg.length < p.size) : p[i + 1 + seg.length] = 47 := by
  have h2 : p.data.toList.drop (i + (47 :: seg).length) = flat 47 more := drop_from (a := 47 :: seg) h
  cases more with
  | nil =>
    have := size_from h2 (by simp; omega)
    simp [flat] at this
    omega
  | cons s2 m2 =>
    obtain ⟨_, hc⟩ := byte_from h2 0 47 rfl
    rw [← hc]
    congr 1
    simp
    omega

theorem seg_own {w : World} {B : Nat} {v : Value} {pre a b : List UInt8} {c : UInt8} (h : a ++ [c] = b) (hown : w.ownsRow B 5 1 v ((pre ++ 47 :: a) ++ [c]).length (bcells ((pre ++ 47 :: a) ++ [c]))) : w.ownsRow B 5 1 v (pre ++ 47 :: b).length (bcells (pre ++ 47 :: b)) := by
  rw [← h]
  simpa using hown
theorem seg_full {w : World} {B : Nat} {v : Value} {K : List (List UInt8)} {seg : List UInt8} (hown : w.ownsRow B 5 1 v (flat 47 K ++ 47 :: seg.take seg.length).length (bcells (flat 47 K ++ 47 :: seg.take seg.length))) : w.ownsRow B 5 1 v (flat 47 (K ++ [seg])).length (bcells (flat 47 (K ++ [seg]))) := by
  rw [List.take_length] at hown
  rw [flat_snoc]
  exact hown

set_option maxHeartbeats 400000 in
theorem rfc8_plain (p : ByteArray) (w : World) (hp : p.size ≤ 1048576) (h : ∀ hlt : 0 < p.size, p[0] ≠ 47) : Calls Tryd.prog 8 #[.string p] w fun e w' => e = .returned (.string p) ∧ Below w.heap.size w w' := by
  by_cases h0 : 0 < p.size
  · have hn : ((p.size : Int) == 0) = false := by rw [beq_eq_false_iff_ne]; omega
    have n47 : ((p[0].toNat : Int) == 47) = false := ne_byte (h h0)
    clear h
    go_enter Tryd.func8, Tryd.ntmps8
    go_wp2
    go_ret
    exact ⟨rfl, Below.refl _ _⟩
  · have hn : ((p.size : Int) == 0) = true := by rw [beq_iff_eq]; omega
    clear h
    go_enter Tryd.func8, Tryd.ntmps8
    go_wp2
    go_ret
    exact ⟨rfl, Below.refl _ _⟩

set_option maxRecDepth 100000 in
set_option maxHeartbeats 6000000 in
theorem rfc8_slash (p : ByteArray) (s : List UInt8) (w : World) (hp : p.size ≤ 1048576) (HP : Hid (p.data.toList = 47 :: s)) :
    Calls Tryd.prog 8 #[.string p] w fun e w' => e = .returned (.string (txt (flat 47 (keptOf s)))) ∧ Below w.heap.size w w' := by
  obtain ⟨i5, hi5, hz50, hz51, hz52⟩ := info_parts Tryd.info5
  have hp0 : 0 < p.size := by rw [Lib.size_eq, HP.out]; simp
  have hn : ((p.size : Int) == 0) = false := by rw [beq_eq_false_iff_ne]; omega
  have hb0 : p[0] = 47 := by
    obtain ⟨_, hc⟩ := byte_from (i := 0) (L := 47 :: s) (by rw [List.drop_zero]; exact HP.out) 0 47 rfl
    exact hc
  have m47 : ((p[0].toNat : Int) != 47) = false := by rw [hb0]; rfl
  have hmk : ∀ w, (Instr.makeSlice 24 (.int .i64 0) (.int .i64 (p.size : Int))).run Tryd.prog w = .ok (.slice (some ⟨w.heap.size, 0, none⟩) 0 p.size) (w.alloc (.cells (madeCells #[.int .u8 0] p.size) 5)) := by
    intro w
    have := run_make (P := Tryd.prog) w 24 5 i5 _ Tryd.underlying24 hi5 hz50 .i64 .i64 0 p.size (by omega) (by omega) (by rw [hz52]; omega) (by omega)
    rw [hz51] at this
    have e : (Value.int .u8 0).cells = #[.int .u8 0] := rfl
    rw [e] at this
    simpa using this
  have HST : Hid (p.data.toList.drop 0 = flat 47 (parts 47 s)) := by show _ = _; rw [flat_parts, List.drop_zero]; exact HP.out
  obtain ⟨fin, hfin⟩ : ∃ fin, fin = keptOf s := ⟨_, rfl⟩
  have HFIN : Hid (fin = keptOf s) := hfin
  have HFR : Hid (∀ x ∈ parts 47 s, (47 : UInt8) ∉ x) := parts_free 47 s
  clear hb0 hi5 hz50 hz51 hz52 hfin
  go_enter Tryd.func8, Tryd.ntmps8
  go_wp2
  clear hmk
  obtain ⟨W1, hW1⟩ : ∃ W1, W1 = w.alloc (.cells (madeCells #[.int .u8 0] p.size) 5) := ⟨_, rfl⟩
  rw [← hW1]
  have hown0 : W1.ownsRow w.heap.size 5 1 (.slice (some ⟨w.heap.size, 0, none⟩) 0 p.size) 0 [] := by
    rw [hW1]; exact World.ownsRow_made w (madeCells #[.int .u8 0] p.size) p.size (Nat.le_refl _) (by unfold maxLen; omega) (by simp [size_madeCells])
  have hs1 : w.heap.size ≤ W1.heap.size := by rw [hW1]; simp
  have HB1 : Hid (Below w.heap.size w W1) := by show Below w.heap.size w W1; rw [hW1]; exact (Below.refl _ _).alloc (Nat.le_refl _) _
  clear hW1
  go_loopw [3, 4] (fun v iv wr => RfcInv p fin w.heap.size W1 v iv wr) (fun _ iv _ => p.size - (intOf iv).toNat)
  case atStart => exact ⟨0, parts 47 s, [], Nat.zero_le _, rfl, HST.out, hown0, by rw [HFIN.out]; rfl, HFR.out, by simp, by simp [flat], Below.refl _ _⟩
  case round =>
    clear hown0
    obtain ⟨i, segs, K, hi, rfl, hdr, hown, hrm, hfs, hfK, hKl, hbel⟩ := hrel
    by_cases hlt : i < p.size
    · obtain ⟨seg, more, rfl⟩ : ∃ seg more, segs = seg :: more := by
        cases segs with
        | nil => have := size_from hdr hi; simp [flat] at this; omega
        | cons a b => exact ⟨a, b, rfl⟩
      have hsz := size_from hdr hi
      have hfm : ∀ x ∈ more, (47 : UInt8) ∉ x := fun x hx => hfs x (by simp [hx])
      have hfseg : (47 : UInt8) ∉ seg := hfs seg (by simp)
      rw [rmL] at hrm
      have hfK' := keepStep_free more.isEmpty K seg hfK hfseg
      have HD14 : Hid (Calls Tryd.prog 14 #[u3] wr (Hands w.heap.size (flat 47 K.dropLast) wr)) := drop14_kept u3 w.heap.size K wr hfK (by omega) hown
      have hKd := flat_length_dropLast 47 K
      by_cases h46 : seg = [46]
      · subst h46
        cases more with
        | nil =>
          obtain ⟨hl1, hc1⟩ := byte_from hdr 1 46 rfl
          have a1 : (p[i + 1].toNat : Int) ≤ 46 := (eq_byte hc1).1
          have a2 : 46 ≤ (p[i + 1].toNat : Int) := (eq_byte hc1).2
          have e1 : i + 2 ≤ p.size := by simp [flat] at hsz; omega
          have e2 : p.size ≤ i + 2 := by simp [flat] at hsz; omega
          have HE : Hid (p.data.toList.drop p.size = flat 47 []) := by show _ = _; rw [List.drop_eq_nil_of_le (by rw [← Lib.size_eq]; omega)]; rfl
          have HO : Hid (rmL [] (K ++ [[]]) = fin) := by rw [← hrm]; rfl
          have HK : Hid (∀ x ∈ K ++ [[]], (47 : UInt8) ∉ x) := hfK'
          clear hc1 hdr hsz hrm hfs hfK hfm hfseg hfK' HD14 hKd
          go_wp2_with (at_builtin; refine wpList_push rfl (.tmp 54) (.tmp 55) rfl w.heap.size wr u3 _ rfl rfl hown 47 47 rfl (by omega) W1 hs1 hbel ?_; intro v1 w2 hown1 hbel1)
          go_roundw
          case rel => exact ⟨p.size, [], K ++ [[]], Nat.le_refl _, by go_num, HE.out, by rw [← flat_snoc_nil]; exact hown1, HO.out, by simp, HK.out, by rw [← flat_snoc_nil]; simp; omega, hbel1⟩
          case measure => simp [intOf]; omega
        | cons s2 m2 =>
          obtain ⟨hl1, hc1⟩ := byte_from hdr 1 46 rfl
          obtain ⟨hl2, hc2⟩ := byte_from hdr 2 47 rfl
          have a1 : (p[i + 1].toNat : Int) ≤ 46 := (eq_byte hc1).1
          have a2 : 46 ≤ (p[i + 1].toNat : Int) := (eq_byte hc1).2
          have b1 : (p[i + 2].toNat : Int) ≤ 47 := (eq_byte hc2).1
          have b2 : 47 ≤ (p[i + 2].toNat : Int) := (eq_byte hc2).2
          have HE : Hid (p.data.toList.drop (i + 2) = flat 47 (s2 :: m2)) := drop_from (a := [47, 46]) hdr
          have HO : Hid (rmL (s2 :: m2) K = fin) := by rw [← hrm]; rfl
          have HM : Hid (∀ x ∈ s2 :: m2, (47 : UInt8) ∉ x) := hfm
          have HK : Hid (∀ x ∈ K, (47 : UInt8) ∉ x) := hfK
          clear hc1 hc2 hdr hsz hrm hfs hfK hfm hfseg hfK' HD14 hKd
          go_wp2
          go_roundw
          case rel => exact ⟨i + 2, s2 :: m2, K, by omega, by go_num, HE.out, hown, HO.out, HM.out, HK.out, by omega, hbel⟩
          case measure => simp [intOf]; omega
      · by_cases h4646 : seg = [46, 46]
        · subst h4646
          cases more with
          | nil =>
            obtain ⟨hl1, hc1⟩ := byte_from hdr 1 46 rfl
            obtain ⟨hl2, hc2⟩ := byte_from hdr 2 46 rfl
            have a1 : (p[i + 1].toNat : Int) ≤ 46 := (eq_byte hc1).1
            have a2 : 46 ≤ (p[i + 1].toNat : Int) := (eq_byte hc1).2
            have b1 : (p[i + 2].toNat : Int) ≤ 46 := (eq_byte hc2).1
            have b2 : 46 ≤ (p[i + 2].toNat : Int) := (eq_byte hc2).2
            have e1 : i + 3 ≤ p.size := by simp [flat] at hsz; omega
            have e2 : p.size ≤ i + 3 := by simp [flat] at hsz; omega
            have HE : Hid (p.data.toList.drop p.size = flat 47 []) := by show _ = _; rw [List.drop_eq_nil_of_le (by rw [← Lib.size_eq]; omega)]; rfl
            have HO : Hid (rmL [] (K.dropLast ++ [[]]) = fin) := by rw [← hrm]; rfl
            have HK : Hid (∀ x ∈ K.dropLast ++ [[]], (47 : UInt8) ∉ x) := hfK'
            clear h46 hc1 hc2 hdr hsz hrm hfs hfK hfm hfseg hfK' hown
            go_wp2_with (first
              | (go_at_call 14; refine HD14.out.mono ?_; rintro e w' ⟨v0, rfl, rfl, hown0⟩)
              | (at_builtin; refine wpList_push rfl (.tmp 104) (.tmp 105) rfl w.heap.size wr v0 _ rfl rfl hown0 47 47 rfl (by omega) W1 hs1 hbel ?_; intro v1 w2 hown1 hbel1))
            go_roundw
            case rel => exact ⟨p.size, [], K.dropLast ++ [[]], Nat.le_refl _, by go_num, HE.out, by rw [← flat_snoc_nil]; exact hown1, HO.out, by simp, HK.out, by rw [← flat_snoc_nil]; simp; omega, hbel1⟩
            case measure => simp [intOf]; omega
          | cons s2 m2 =>
            obtain ⟨hl1, hc1⟩ := byte_from hdr 1 46 rfl
            obtain ⟨hl2, hc2⟩ := byte_from hdr 2 46 rfl
            obtain ⟨hl3, hc3⟩ := byte_from hdr 3 47 rfl
            have a1 : (p[i + 1].toNat : Int) ≤ 46 := (eq_byte hc1).1
            have a2 : 46 ≤ (p[i + 1].toNat : Int) := (eq_byte hc1).2
            have b1 : (p[i + 2].toNat : Int) ≤ 46 := (eq_byte hc2).1
            have b2 : 46 ≤ (p[i + 2].toNat : Int) := (eq_byte hc2).2
            have c1 : (p[i + 3].toNat : Int) ≤ 47 := (eq_byte hc3).1
            have c2 : 47 ≤ (p[i + 3].toNat : Int) := (eq_byte hc3).2
            have HE : Hid (p.data.toList.drop (i + 3) = flat 47 (s2 :: m2)) := drop_from (a := [47, 46, 46]) hdr
            have HO : Hid (rmL (s2 :: m2) K.dropLast = fin) := by rw [← hrm]; rfl
            have HM : Hid (∀ x ∈ s2 :: m2, (47 : UInt8) ∉ x) := hfm
            have HK : Hid (∀ x ∈ K.dropLast, (47 : UInt8) ∉ x) := hfK'
            clear h46 hc1 hc2 hc3 hdr hsz hrm hfs hfK hfm hfseg hfK' hown
            go_wp2_with (go_at_call 14; refine HD14.out.mono ?_; rintro e w' ⟨v0, rfl, rfl, hown0⟩)
            go_roundw
            case rel => exact ⟨i + 3, s2 :: m2, K.dropLast, by omega, by go_num, HE.out, hown0, HO.out, HM.out, HK.out, by omega, hbel⟩
            case measure => simp [intOf]; omega
        · have hoth := other_seg hdr hfseg h46 h4646 hi
          have HE : Hid (p.data.toList.drop (i + (seg.length + 1)) = flat 47 more) := by
            have := drop_from (a := 47 :: seg) hdr
            exact this
          have HO : Hid (rmL more (K ++ [seg]) = fin) := by show _ = _; rw [← hrm, keepStep, if_neg h46, if_neg h4646]
          have HM : Hid (∀ x ∈ more, (47 : UInt8) ∉ x) := hfm
          have HK : Hid (∀ x ∈ K ++ [seg], (47 : UInt8) ∉ x) := by rw [keepStep, if_neg h46, if_neg h4646] at hfK'; exact hfK'
          have HD : Hid (p.data.toList.drop i = flat 47 (seg :: more)) := hdr
          have HS : Hid ((47 : UInt8) ∉ seg) := hfseg
          have hsl : i + (seg.length + 1) ≤ p.size := by rw [hsz]; simp [flat]
          clear h46 h4646 hdr hsz hrm hfs hfK hfm hfseg hfK' HD14 hKd
          rcases hoth with hr | ⟨hl1, hc1⟩ | ⟨hl1, hl2, hc1, hc2, hc2'⟩ | ⟨hl1, hl2, hl3, hc1, hc2, hc3⟩
          ·
            go_wp2_with (at_builtin; refine wpList_push rfl (.tmp 109) (.tmp 110) rfl w.heap.size wr u3 _ rfl rfl hown 47 47 rfl (by omega) W1 hs1 hbel ?_; intro v1 w2 hown1 hbel1)
            all_goals
              go_loopw [3, 6] (fun v jv wr2 => SegInv i seg (flat 47 K) w.heap.size W1 v jv wr2) (fun _ jv _ => p.size - (intOf jv).toNat)
              case atStart => exact ⟨0, Nat.zero_le _, by go_num, by simpa using hown1, hbel1⟩
              case round =>
                clear hown1 hbel1 hown
                obtain ⟨n, hn, rfl, hown2, hbel2⟩ := hrel
                have hne : n = seg.length := by omega
                subst hne
                have HO2 : Hid (_) := seg_full hown2
                clear hown2
                have hend : ¬ i + 1 + seg.length < p.size := by omega
                go_wp2
                go_roundw
                case rel => exact ⟨i + 1 + seg.length, more, K ++ [seg], by omega, by go_num, by rw [← HE.out]; congr 1; omega, HO2.out, HO.out, HM.out, HK.out, by rw [flat_snoc]; simp; omega, hbel2⟩
                case measure => simp [intOf]; omega
          · have a1 : ((p[i + 1].toNat : Int) == 46) = false := ne_byte hc1
            clear hc1
            go_wp2_with (at_builtin; refine wpList_push rfl (.tmp 109) (.tmp 110) rfl w.heap.size wr u3 _ rfl rfl hown 47 47 rfl (by omega) W1 hs1 hbel ?_; intro v1 w2 hown1 hbel1)
            all_goals
              go_loopw [3, 6] (fun v jv wr2 => SegInv i seg (flat 47 K) w.heap.size W1 v jv wr2) (fun _ jv _ => p.size - (intOf jv).toNat)
              case atStart => exact ⟨0, Nat.zero_le _, by go_num, by simpa using hown1, hbel1⟩
              case round =>
                clear hown1 hbel1 hown
                obtain ⟨n, hn, rfl, hown2, hbel2⟩ := hrel
                by_cases hns : n < seg.length
                · obtain ⟨hq, hq1, hq2⟩ := seg_byte HD.out HS.out hns
                  have hx47 : ((p[i + 1 + n].toNat : Int) == 47) = false := ne_byte hq2
                  have HQ : Hid (seg.take n ++ [p[i + 1 + n]] = seg.take (n + 1)) := hq1
                  clear hq1 hq2
                  go_wp2_with (at_builtin; refine wpList_push rfl (.tmp 124) (.tmp 128) rfl w.heap.size _ _ _ rfl rfl hown2 _ _ rfl (by rw [List.length_append, List.length_cons, List.length_take]; omega) W1 hs1 hbel2 ?_; intro v3 w3 hown3 hbel3)
                  go_roundw
                  case rel => exact ⟨n + 1, by omega, by go_num, seg_own HQ.out hown3, hbel3⟩
                  case measure => simp [intOf]; omega
                · have hne : n = seg.length := by omega
                  subst hne
                  have HO2 : Hid (_) := seg_full hown2
                  clear hown2
                  by_cases hend : i + 1 + seg.length < p.size
                  · have hq := seg_end HD.out hend
                    have q1 : (p[i + 1 + seg.length].toNat : Int) ≤ 47 := (eq_byte hq).1
                    have q2 : 47 ≤ (p[i + 1 + seg.length].toNat : Int) := (eq_byte hq).2
                    clear hq
                    go_wp2
                    go_roundw
                    case rel => exact ⟨i + 1 + seg.length, more, K ++ [seg], by omega, by go_num, by rw [← HE.out]; congr 1; omega, HO2.out, HO.out, HM.out, HK.out, by rw [flat_snoc]; simp; omega, hbel2⟩
                    case measure => simp [intOf]; omega
                  · go_wp2
                    go_roundw
                    case rel => exact ⟨i + 1 + seg.length, more, K ++ [seg], by omega, by go_num, by rw [← HE.out]; congr 1; omega, HO2.out, HO.out, HM.out, HK.out, by rw [flat_snoc]; simp; omega, hbel2⟩
                    case measure => simp [intOf]; omega
          · have a1 : (p[i + 1].toNat : Int) ≤ 46 := (eq_byte hc1).1
            have a2 : 46 ≤ (p[i + 1].toNat : Int) := (eq_byte hc1).2
            have b1 : ((p[i + 2].toNat : Int) == 46) = false := ne_byte hc2
            have b2 : ((p[i + 2].toNat : Int) == 47) = false := ne_byte hc2'
            clear hc1 hc2 hc2'
            go_wp2_with (at_builtin; refine wpList_push rfl (.tmp 109) (.tmp 110) rfl w.heap.size wr u3 _ rfl rfl hown 47 47 rfl (by omega) W1 hs1 hbel ?_; intro v1 w2 hown1 hbel1)
            all_goals
              go_loopw [3, 6] (fun v jv wr2 => SegInv i seg (flat 47 K) w.heap.size W1 v jv wr2) (fun _ jv _ => p.size - (intOf jv).toNat)
              case atStart => exact ⟨0, Nat.zero_le _, by go_num, by simpa using hown1, hbel1⟩
              case round =>
                clear hown1 hbel1 hown
                obtain ⟨n, hn, rfl, hown2, hbel2⟩ := hrel
                by_cases hns : n < seg.length
                · obtain ⟨hq, hq1, hq2⟩ := seg_byte HD.out HS.out hns
                  have hx47 : ((p[i + 1 + n].toNat : Int) == 47) = false := ne_byte hq2
                  have HQ : Hid (seg.take n ++ [p[i + 1 + n]] = seg.take (n + 1)) := hq1
                  clear hq1 hq2
                  go_wp2_with (at_builtin; refine wpList_push rfl (.tmp 124) (.tmp 128) rfl w.heap.size _ _ _ rfl rfl hown2 _ _ rfl (by rw [List.length_append, List.length_cons, List.length_take]; omega) W1 hs1 hbel2 ?_; intro v3 w3 hown3 hbel3)
                  go_roundw
                  case rel => exact ⟨n + 1, by omega, by go_num, seg_own HQ.out hown3, hbel3⟩
                  case measure => simp [intOf]; omega
                · have hne : n = seg.length := by omega
                  subst hne
                  have HO2 : Hid (_) := seg_full hown2
                  clear hown2
                  by_cases hend : i + 1 + seg.length < p.size
                  · have hq := seg_end HD.out hend
                    have q1 : (p[i + 1 + seg.length].toNat : Int) ≤ 47 := (eq_byte hq).1
                    have q2 : 47 ≤ (p[i + 1 + seg.length].toNat : Int) := (eq_byte hq).2
                    clear hq
                    go_wp2
                    go_roundw
                    case rel => exact ⟨i + 1 + seg.length, more, K ++ [seg], by omega, by go_num, by rw [← HE.out]; congr 1; omega, HO2.out, HO.out, HM.out, HK.out, by rw [flat_snoc]; simp; omega, hbel2⟩
                    case measure => simp [intOf]; omega
                  · go_wp2
                    go_roundw
                    case rel => exact ⟨i + 1 + seg.length, more, K ++ [seg], by omega, by go_num, by rw [← HE.out]; congr 1; omega, HO2.out, HO.out, HM.out, HK.out, by rw [flat_snoc]; simp; omega, hbel2⟩
                    case measure => simp [intOf]; omega
          · have a1 : (p[i + 1].toNat : Int) ≤ 46 := (eq_byte hc1).1
            have a2 : 46 ≤ (p[i + 1].toNat : Int) := (eq_byte hc1).2
            have b1 : (p[i + 2].toNat : Int) ≤ 46 := (eq_byte hc2).1
            have b2 : 46 ≤ (p[i + 2].toNat : Int) := (eq_byte hc2).2
            have b3 : ((p[i + 3].toNat : Int) == 47) = false := ne_byte hc3
            clear hc1 hc2 hc3
            go_wp2_with (at_builtin; refine wpList_push rfl (.tmp 109) (.tmp 110) rfl w.heap.size wr u3 _ rfl rfl hown 47 47 rfl (by omega) W1 hs1 hbel ?_; intro v1 w2 hown1 hbel1)
            all_goals
              go_loopw [3, 6] (fun v jv wr2 => SegInv i seg (flat 47 K) w.heap.size W1 v jv wr2) (fun _ jv _ => p.size - (intOf jv).toNat)
              case atStart => exact ⟨0, Nat.zero_le _, by go_num, by simpa using hown1, hbel1⟩
              case round =>
                clear hown1 hbel1 hown
                obtain ⟨n, hn, rfl, hown2, hbel2⟩ := hrel
                by_cases hns : n < seg.length
                · obtain ⟨hq, hq1, hq2⟩ := seg_byte HD.out HS.out hns
                  have hx47 : ((p[i + 1 + n].toNat : Int) == 47) = false := ne_byte hq2
                  have HQ : Hid (seg.take n ++ [p[i + 1 + n]] = seg.take (n + 1)) := hq1
                  clear hq1 hq2
                  go_wp2_with (at_builtin; refine wpList_push rfl (.tmp 124) (.tmp 128) rfl w.heap.size _ _ _ rfl rfl hown2 _ _ rfl (by rw [List.length_append, List.length_cons, List.length_take]; omega) W1 hs1 hbel2 ?_; intro v3 w3 hown3 hbel3)
                  go_roundw
                  case rel => exact ⟨n + 1, by omega, by go_num, seg_own HQ.out hown3, hbel3⟩
                  case measure => simp [intOf]; omega
                · have hne : n = seg.length := by omega
                  subst hne
                  have HO2 : Hid (_) := seg_full hown2
                  clear hown2
                  by_cases hend : i + 1 + seg.length < p.size
                  · have hq := seg_end HD.out hend
                    have q1 : (p[i + 1 + seg.length].toNat : Int) ≤ 47 := (eq_byte hq).1
                    have q2 : 47 ≤ (p[i + 1 + seg.length].toNat : Int) := (eq_byte hq).2
                    clear hq
                    go_wp2
                    go_roundw
                    case rel => exact ⟨i + 1 + seg.length, more, K ++ [seg], by omega, by go_num, by rw [← HE.out]; congr 1; omega, HO2.out, HO.out, HM.out, HK.out, by rw [flat_snoc]; simp; omega, hbel2⟩
                    case measure => simp [intOf]; omega
                  · go_wp2
                    go_roundw
                    case rel => exact ⟨i + 1 + seg.length, more, K ++ [seg], by omega, by go_num, by rw [← HE.out]; congr 1; omega, HO2.out, HO.out, HM.out, HK.out, by rw [flat_snoc]; simp; omega, hbel2⟩
                    case measure => simp [intOf]; omega
    · have hsegs : segs = [] := by
        cases segs with
        | nil => rfl
        | cons a b => have := size_from hdr hi; simp [flat] at this; omega
      subst hsegs
      rw [rmL] at hrm
      have HT : Hid (txt (flat 47 K) = txt (flat 47 (keptOf s))) := by show _ = _; rw [hrm, HFIN.out]
      have hconv := convert_own hown
      clear hdr hrm hfs hfK hown
      go_wp2
      go_ret
      refine ⟨?_, HB1.out.trans hbel⟩
      rw [← HT.out]
      rfl
end Go.Proofs.Qxb6602632aDoor
