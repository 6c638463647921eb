/-
  The walks of zzStartsSlash and zzHasDotSegment (functions 11, 12).
-/
import Derived.Test.Qxb6602632aDoorClean
import Derived.Test.Qxb6602632aDoorRfc
namespace Go.Proofs.Qxb6602632aDoor
open Go.RowKit

/-- Does it begin with a '/'? -/
def slashed (l : List UInt8) : Bool := match l with
  | c :: _ => c == 47
  | [] => false

set_option maxHeartbeats 400000 in
theorem starts11 (s : ByteArray) (w : World) (hs : s.size ≤ 1048577) : Calls Tryd.prog 11 #[.string s] w fun e w' => e = .returned (.bool (slashed s.data.toList)) ∧ w = w' := by
  cases e : s.data.toList with
  | nil =>
    have h0 : s.size ≤ 0 := by rw [Lib.size_eq, e]; simp
    go_enter Tryd.func11, Tryd.ntmps11
    go_wp2
    go_ret
    exact ⟨rfl, rfl⟩
  | cons c r =>
    have h0 : 0 < s.size := by rw [Lib.size_eq, e]; simp
    have hc : s[0] = c := by
      obtain ⟨_, hc⟩ := byte_from (i := 0) (L := c :: r) (by rw [List.drop_zero]; exact e) 0 c rfl
      exact hc
    have HB : Hid (slashed (c :: r) = ((s[0].toNat : Int) == 47)) := by
      show (c == 47) = _
      rw [hc]
      by_cases h : c = 47
      · subst h; rfl
      · have h2 : ((c.toNat : Int) == 47) = false := ne_byte h
        rw [h2]; simpa using h
    rw [HB.out]
    clear e hc HB
    go_enter Tryd.func11, Tryd.ntmps11
    go_wp2
    all_goals go_ret
    all_goals exact ⟨rfl, rfl⟩

/-- The scanner's state. -/
def DotInv (s : ByteArray) (R : Bool) (vs vk : Value) : Prop :=
  (∃ (st n : Nat) (seg : List UInt8) (more : List (List UInt8)), s.data.toList.drop st = flat 47 (seg :: more) ∧ n ≤ seg.length ∧ st + 1 + seg.length ≤ s.size ∧ vs = .int .i64 (st + 1 : Nat) ∧ vk = .int .i64 (st + 1 + n : Nat) ∧
    (∀ x ∈ seg :: more, (47 : UInt8) ∉ x) ∧ anyDot (seg :: more) = R) ∨ (vk = .int .i64 (s.size + 1 : Nat) ∧ R = false)

theorem dot_next {s : ByteArray} {st : Nat} {seg : List UInt8} {more : List (List UInt8)} {R : Bool} (h : s.data.toList.drop st = flat 47 (seg :: more)) (hst : st + 1 + seg.length ≤ s.size) (hf : ∀ x ∈ seg :: more, (47 : UInt8) ∉ x)
    (ha : anyDot (seg :: more) = R) (hd : isDot seg = false) (vs vk : Value) (h1 : vs = .int .i64 (st + 1 + seg.length + 1 : Nat)) (h2 : vk = .int .i64 (st + 1 + seg.length + 1 : Nat)) : DotInv s R vs vk := by
  rw [anyDot_cons, hd, Bool.false_or] at ha
  have h3 : s.data.toList.drop (st + 1 + seg.length) = flat 47 more := by
    have := drop_from (a := 47 :: seg) h
    rw [← this]
    congr 1
    simp
    omega
  cases more with
  | nil =>
    right
    have := size_from h3 hst
    simp [flat] at this
    exact ⟨by rw [h2, this], by rw [← ha]; rfl⟩
  | cons s2 m2 =>
    left
    refine ⟨st + 1 + seg.length, 0, s2, m2, h3, Nat.zero_le _, ?_, h1, h2, fun x hx => hf x (by simp [hx]), ha⟩
    have := size_from h3 hst
    rw [this]
    simp [flat]
    omega

/-- A segment, told by its bytes. -/
theorem seg_kind {s : ByteArray} {st : Nat} {seg : List UInt8} {more : List (List UInt8)} (h : s.data.toList.drop st = flat 47 (seg :: more)) :
    (isDot seg = true ∧ seg.length = 1 ∧ ∃ hl : st + 1 < s.size, s[st + 1] = 46) ∨
    (isDot seg = true ∧ seg.length = 2 ∧ ∃ (hl : st + 1 < s.size) (hl2 : st + 1 + 1 < s.size), s[st + 1] = 46 ∧ s[st + 1 + 1] = 46) ∨
    (isDot seg = false ∧ seg.length = 0) ∨ (isDot seg = false ∧ 3 ≤ seg.length) ∨
    (isDot seg = false ∧ (seg.length = 1 ∨ seg.length = 2) ∧ ∃ hl : st + 1 < s.size, s[st + 1] ≠ 46) ∨
    (isDot seg = false ∧ seg.length = 2 ∧ ∃ (hl : st + 1 < s.size) (hl2 : st + 1 + 1 < s.size), s[st + 1] = 46 ∧ s[st + 1 + 1] ≠ 46) := by
  rw [flat] at h
  match seg, h with
  | [], _ => exact .inr (.inr (.inl ⟨rfl, rfl⟩))
  | [a], h =>
    obtain ⟨hl, hc⟩ := byte_from h 1 a (by simp)
    by_cases e : a = 46
    · subst e; exact .inl ⟨rfl, rfl, hl, hc⟩
    · exact .inr (.inr (.inr (.inr (.inl ⟨isDot_ne (by simpa using e) (by simp), .inl rfl, hl, by rw [hc]; exact e⟩))))
  | [a, b], h =>
    obtain ⟨hl, hc⟩ := byte_from h 1 a (by simp)
    obtain ⟨hl2, hc2⟩ := byte_from h 2 b (by simp)
    by_cases e : a = 46
    · subst e
      by_cases e2 : b = 46
      · subst e2; exact .inr (.inl ⟨rfl, rfl, hl, hl2, hc, hc2⟩)
      · exact .inr (.inr (.inr (.inr (.inr ⟨isDot_ne (by simp) (by simpa using e2), rfl, hl, hl2, hc, by intro e3; exact e2 (hc2.symm.trans e3)⟩))))
    · exact .inr (.inr (.inr (.inr (.inl ⟨isDot_ne (by simp) (by simp [e]), .inr rfl, hl, by rw [hc]; exact e⟩))))
  | a :: b :: c :: r, _ => exact .inr (.inr (.inr (.inl ⟨isDot_ne (by simp) (by simp), by simp⟩)))

set_option maxRecDepth 100000 in
set_option maxHeartbeats 2000000 in
theorem dots12 (s : ByteArray) (x : List UInt8) (w : World) (hs : s.size ≤ 1048577) (HP : Hid (s.data.toList = 47 :: x)) : Calls Tryd.prog 12 #[.string s] w fun e w' => e = .returned (.bool (anyDot (parts 47 x))) ∧ w = w' := by
  obtain ⟨R, hR⟩ : ∃ R, R = anyDot (parts 47 x) := ⟨_, rfl⟩
  rw [← hR]
  obtain ⟨seg0, more0, e0⟩ : ∃ seg0 more0, parts 47 x = seg0 :: more0 := by
    cases e : parts 47 x with
    | nil => exact absurd e (parts_ne 47 x)
    | cons a b => exact ⟨a, b, rfl⟩
  have hdr0 : s.data.toList.drop 0 = flat 47 (seg0 :: more0) := by rw [← e0, flat_parts, List.drop_zero]; exact HP.out
  have hI : DotInv s R (.int .i64 1) (.int .i64 1) := by
    left
    refine ⟨0, 0, seg0, more0, hdr0, Nat.zero_le _, ?_, rfl, rfl, ?_, by rw [hR, e0]⟩
    · rw [size_from hdr0 (Nat.zero_le _)]; simp [flat]; omega
    · rw [← e0]; exact parts_free 47 x
  clear hdr0 e0 hR
  go_enter Tryd.func12, Tryd.ntmps12
  go_wp2
  go_loop [3, 4] (fun vs vk => DotInv s R vs vk) (fun _ vk => s.size + 2 - (intOf vk).toNat)
  case atStart => exact hI
  case round =>
    clear hI HP
    rcases hrel with ⟨st, n, seg, more, hdr, hn, hst, rfl, rfl, hf, ha⟩ | ⟨rfl, rfl⟩
    · obtain ⟨L, hL⟩ : ∃ L, L = seg.length := ⟨_, rfl⟩
      have HL : Hid (L = seg.length) := hL
      rw [← hL] at hn hst
      have HD : Hid (s.data.toList.drop st = flat 47 (seg :: more)) := hdr
      have HF : Hid (∀ x ∈ seg :: more, (47 : UInt8) ∉ x) := hf
      have HA : Hid (anyDot (seg :: more) = R) := ha
      by_cases hns : n < L
      · obtain ⟨hq, _, hq2⟩ := seg_byte (n := n) hdr (hf seg (by simp)) (by omega)
        have hx47 : ((s[st + 1 + n].toNat : Int) == 47) = false := ne_byte hq2
        clear hq2 hdr hf ha hL
        go_wp2
        go_round
        case rel => exact .inl ⟨st, n + 1, seg, more, HD.out, by have := HL.out; omega, by have := HL.out; omega, by go_num, by go_num, HF.out, HA.out⟩
        case measure => simp [intOf]; omega
      · have hne : n = L := by omega
        subst hne
        have hk := seg_kind hdr
        have hT : isDot seg = true → R = true := fun h => by rw [← ha, anyDot_cons, h, Bool.true_or]
        have HN : Hid (isDot seg = false → ∀ (vs vk : Value), vs = .int .i64 (st + 1 + n + 1 : Nat) → vk = .int .i64 (st + 1 + n + 1 : Nat) → DotInv s R vs vk) := fun h vs vk h1 h2 => dot_next hdr (by omega) hf ha h vs vk (by rw [h1, hL]) (by rw [h2, hL])
        rw [← hL] at hk
        have hq : ∀ h : st + 1 + n < s.size, s[st + 1 + n] = 47 := fun h => by
          have h2 : st + 1 + seg.length < s.size := by rw [← hL]; exact h
          have := seg_end hdr h2
          rw [← this]
          congr 1
          omega
        clear hdr hf ha hL HD HF HA HL hns
        by_cases hend : st + 1 + n < s.size
        · have q : ((s[st + 1 + n].toNat : Int) == 47) = true := by
            have := eq_byte (n := 47) (hq hend)
            rw [beq_iff_eq]
            omega
          clear hq
          rcases hk with ⟨hi, h1, hl, hc⟩ | ⟨hi, h1, hl, hl2, hc, hc2⟩ | ⟨hi, h1⟩ | ⟨hi, h1⟩ | ⟨hi, h1, hl, hc⟩ | ⟨hi, h1, hl, hl2, hc, hc2⟩
          · subst h1
            obtain rfl := hT hi
            have a1 : (s[st + 1].toNat : Int) ≤ 46 := (eq_byte hc).1
            have a2 : 46 ≤ (s[st + 1].toNat : Int) := (eq_byte hc).2
            clear HN hc hT hi
            go_wp2
            go_ret
            exact ⟨rfl, rfl⟩
          · subst h1
            obtain rfl := hT hi
            have a1 : (s[st + 1].toNat : Int) ≤ 46 := (eq_byte hc).1
            have a2 : 46 ≤ (s[st + 1].toNat : Int) := (eq_byte hc).2
            have b1 : (s[st + 1 + 1].toNat : Int) ≤ 46 := (eq_byte hc2).1
            have b2 : 46 ≤ (s[st + 1 + 1].toNat : Int) := (eq_byte hc2).2
            clear HN hc hc2 hT hi
            go_wp2
            go_ret
            exact ⟨rfl, rfl⟩
          · subst h1
            have q' : ((s[st + 1].toNat : Int) == 47) = true := q
            clear q
            have HN2 := HN.out hi
            have HN3 : Hid (_) := HN2
            clear HN HN2 hT hi
            go_wp2
            go_round
            case rel => exact HN3.out _ _ (by go_num) (by go_num)
            case measure => simp [intOf]; omega
          · have HN2 := HN.out hi
            have HN3 : Hid (_) := HN2
            clear HN HN2 hT hi
            go_wp2
            go_round
            case rel => exact HN3.out _ _ (by go_num) (by go_num)
            case measure => simp [intOf]; omega
          · have HN2 := HN.out hi
            have HN3 : Hid (_) := HN2
            have a1 : ((s[st + 1].toNat : Int) == 46) = false := ne_byte hc
            clear HN HN2 hT hi hc
            rcases h1 with rfl | rfl
            · go_wp2
              go_round
              case rel => exact HN3.out _ _ (by go_num) (by go_num)
              case measure => simp [intOf]; omega
            · go_wp2
              go_round
              case rel => exact HN3.out _ _ (by go_num) (by go_num)
              case measure => simp [intOf]; omega
          · subst h1
            have HN2 := HN.out hi
            have HN3 : Hid (_) := HN2
            have a1 : (s[st + 1].toNat : Int) ≤ 46 := (eq_byte hc).1
            have a2 : 46 ≤ (s[st + 1].toNat : Int) := (eq_byte hc).2
            have b1 : ((s[st + 1 + 1].toNat : Int) == 46) = false := ne_byte hc2
            clear HN HN2 hT hi hc hc2
            go_wp2
            go_round
            case rel => exact HN3.out _ _ (by go_num) (by go_num)
            case measure => simp [intOf]; omega
        · clear hq
          rcases hk with ⟨hi, h1, hl, hc⟩ | ⟨hi, h1, hl, hl2, hc, hc2⟩ | ⟨hi, h1⟩ | ⟨hi, h1⟩ | ⟨hi, h1, hl, hc⟩ | ⟨hi, h1, hl, hl2, hc, hc2⟩
          · obtain rfl := hT hi
            have a1 : (s[st + 1].toNat : Int) ≤ 46 := (eq_byte hc).1
            have a2 : 46 ≤ (s[st + 1].toNat : Int) := (eq_byte hc).2
            clear HN hc hT hi
            go_wp2
            go_ret
            exact ⟨rfl, rfl⟩
          · obtain rfl := hT hi
            have a1 : (s[st + 1].toNat : Int) ≤ 46 := (eq_byte hc).1
            have a2 : 46 ≤ (s[st + 1].toNat : Int) := (eq_byte hc).2
            have b1 : (s[st + 1 + 1].toNat : Int) ≤ 46 := (eq_byte hc2).1
            have b2 : 46 ≤ (s[st + 1 + 1].toNat : Int) := (eq_byte hc2).2
            clear HN hc hc2 hT hi
            go_wp2
            go_ret
            exact ⟨rfl, rfl⟩
          · have HN2 := HN.out hi
            have HN3 : Hid (_) := HN2
            clear HN HN2 hT hi
            go_wp2
            go_round
            case rel => exact HN3.out _ _ (by go_num) (by go_num)
            case measure => simp [intOf]; omega
          · have HN2 := HN.out hi
            have HN3 : Hid (_) := HN2
            clear HN HN2 hT hi
            go_wp2
            go_round
            case rel => exact HN3.out _ _ (by go_num) (by go_num)
            case measure => simp [intOf]; omega
          · have HN2 := HN.out hi
            have HN3 : Hid (_) := HN2
            have a1 : ((s[st + 1].toNat : Int) == 46) = false := ne_byte hc
            clear HN HN2 hT hi hc
            rcases h1 with h1 | h1
            · go_wp2
              go_round
              case rel => exact HN3.out _ _ (by go_num) (by go_num)
              case measure => simp [intOf]; omega
            · go_wp2
              go_round
              case rel => exact HN3.out _ _ (by go_num) (by go_num)
              case measure => simp [intOf]; omega
          · have HN2 := HN.out hi
            have HN3 : Hid (_) := HN2
            have a1 : (s[st + 1].toNat : Int) ≤ 46 := (eq_byte hc).1
            have a2 : 46 ≤ (s[st + 1].toNat : Int) := (eq_byte hc).2
            have b1 : ((s[st + 1 + 1].toNat : Int) == 46) = false := ne_byte hc2
            clear HN HN2 hT hi hc hc2
            go_wp2
            go_round
            case rel => exact HN3.out _ _ (by go_num) (by go_num)
            case measure => simp [intOf]; omega
    · go_wp2
      go_ret
      exact ⟨rfl, rfl⟩
end Go.Proofs.Qxb6602632aDoor
