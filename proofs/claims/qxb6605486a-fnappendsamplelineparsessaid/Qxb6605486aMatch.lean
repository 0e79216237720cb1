/-
  THE WALKS of the matchers of a sample line: zzExB1MatchLit (22), zzExB1MatchByte (23), zzExB1MatchQuotedValue (24), each at a text that holds what it looks for.
-/
import Derived.Test.Qxb6605486aRead
namespace Go.Proofs.Qxb6605486a
open Go.ChangeShapes Go.WideShapes Go.ChangeAt Go.RowKit

/-- The bytes l stand in os from place i on. -/
def At (os : List UInt8) (i : Nat) (l : List UInt8) : Prop := i + l.length ≤ os.length ∧ ∀ j, j < l.length → os.getD (i + j) 0 = l.getD j 0

theorem At.mk {pre l post os : List UInt8} {i : Nat} (h : os = pre ++ (l ++ post)) (hi : pre.length = i) : At os i l := by
  subst h; subst hi
  refine ⟨by simp, fun j hj => ?_⟩
  have e : (pre ++ (l ++ post))[pre.length + j]? = l[j]? := by
    rw [List.getElem?_append_right (by omega)]
    have : pre.length + j - pre.length = j := by omega
    rw [this, List.getElem?_append_left hj]
  simp only [List.getD_eq_getElem?_getD]
  rw [e]

theorem At.split {os l : List UInt8} {i : Nat} (h : At os i l) : os = os.take i ++ (l ++ os.drop (i + l.length)) ∧ (os.take i).length = i := by
  have hl : (os.take i).length = i := by rw [List.length_take]; have := h.1; omega
  refine ⟨?_, hl⟩
  have e : os.drop i = l ++ os.drop (i + l.length) := by
    rw [← List.take_append_drop l.length (os.drop i), List.drop_drop]
    congr 1
    apply List.ext_getElem?
    intro j
    by_cases hj : j < l.length
    · have := h.2 j hj
      simp only [List.getD_eq_getElem?_getD] at this
      rw [List.getElem?_take_of_lt hj, List.getElem?_drop]
      have h1 : i + j < os.length := by have := h.1; omega
      rw [List.getElem?_eq_getElem h1, List.getElem?_eq_getElem hj] at this ⊢
      simpa using this
    · rw [List.getElem?_eq_none (by rw [List.length_take, List.length_drop]; omega), List.getElem?_eq_none (by omega)]
  rw [← e, List.take_append_drop]

/-! ### DecodeEscape in a longer text -/
theorem dec_bs8 (b off n c i : Nat) (q : Bool) (w : World) (hn : n ≤ 8388608) (hi : i + 1 < n) (hc : w.cell? ⟨b, off + (i + 1), none⟩ = some (.int .u8 92)) :
    Calls Try.prog 20 #[.slice (some ⟨b, off, none⟩) n c, .int .i64 (i : Int), .bool q] w fun e w' => e = .returned (.tuple #[.int .u8 92, .bool true]) ∧ w = w' := by
  have hi2 : (i : Int) + 1 < (n : Int) := by omega
  go_enter Try.func20, Try.ntmps20
  go_wp2
  go_ret2
  exact ⟨rfl, rfl⟩

theorem dec_lf8 (b off n c i : Nat) (q : Bool) (w : World) (hn : n ≤ 8388608) (hi : i + 1 < n) (hc : w.cell? ⟨b, off + (i + 1), none⟩ = some (.int .u8 110)) :
    Calls Try.prog 20 #[.slice (some ⟨b, off, none⟩) n c, .int .i64 (i : Int), .bool q] w fun e w' => e = .returned (.tuple #[.int .u8 10, .bool true]) ∧ w = w' := by
  have hi2 : (i : Int) + 1 < (n : Int) := by omega
  go_enter Try.func20, Try.ntmps20
  go_wp2
  go_ret2
  exact ⟨rfl, rfl⟩

theorem dec_dq8 (b off n c i : Nat) (w : World) (hn : n ≤ 8388608) (hi : i + 1 < n) (hc : w.cell? ⟨b, off + (i + 1), none⟩ = some (.int .u8 34)) :
    Calls Try.prog 20 #[.slice (some ⟨b, off, none⟩) n c, .int .i64 (i : Int), .bool true] w fun e w' => e = .returned (.tuple #[.int .u8 34, .bool true]) ∧ w = w' := by
  have hi2 : (i : Int) + 1 < (n : Int) := by omega
  go_enter Try.func20, Try.ntmps20
  go_wp2
  go_ret2
  exact ⟨rfl, rfl⟩

/-! ### MatchLit -/
set_option maxHeartbeats 400000 in
theorem lit_some (b off c n i m : Nat) (s : ByteArray) (w : World) (hn : n ≤ 8388608) (hfit : i + s.size ≤ n) (hm : i + s.size = m)
    (hx : ∀ j (h : j < s.size), w.cell? ⟨b, off + (i + j), none⟩ = some (.int .u8 (s[j].toNat : Int))) :
    Calls Try.prog 22 #[.slice (some ⟨b, off, none⟩) n c, .int .i64 (i : Int), .string s] w fun e w' => e = .returned (.tuple #[.int .i64 (m : Int), .bool true]) ∧ ∃ q, w' = w.drewN q := by
  have HM : Hid (i + s.size = m) := hm
  clear hm
  go_enter Try.func22, Try.ntmps22
  go_wp2
  go_loopw [8] (fun x wr => ∃ (k q : Nat), k ≤ s.size ∧ x = .int .i64 k ∧ wr = w.drewN q) (fun x _ => s.size - (intOf x).toNat)
  case atStart => exact ⟨0, 0, Nat.zero_le _, rfl, rfl⟩
  case round =>
    obtain ⟨k, q, hk, rfl, rfl⟩ := hrel
    by_cases hlt : k < s.size
    · have hxk := hx k hlt
      have hi1 : (i : Int) + (k : Int) < (n : Int) := by omega
      clear hx
      go_wp2
      go_quiet (fail)
      go_wp2
      go_roundw
      case rel => exact ⟨k + 1, _, by omega, by go_num, rfl⟩
      case measure => simp [intOf]; omega
    · clear hx
      go_wp2
      go_ret2
      refine ⟨?_, _, rfl⟩
      have e : (m : Int) = (i : Int) + (s.size : Int) := by have := HM.out; omega
      rw [e]
      rfl

theorem lit_none (ao : Option Addr) (c n i : Nat) (s : ByteArray) (w : World) (hn : n ≤ 8388608) (hi : i ≤ n) (hs : s.size = 0) :
    Calls Try.prog 22 #[.slice ao n c, .int .i64 (i : Int), .string s] w fun e w' => e = .returned (.tuple #[.int .i64 (i : Int), .bool true]) ∧ ∃ q, w' = w.drewN q := by
  go_enter Try.func22, Try.ntmps22
  go_wp2
  go_loop [8] (fun x => x = .int .i64 0) (fun _ => 0)
  case atStart => rfl
  case round =>
    subst hrel
    go_wp2
    go_ret2
    exact ⟨rfl, 0, rfl⟩

/-- MatchLit where the text stands. -/
theorem lit_any (ao : Option Addr) (c n i m : Nat) (os : List UInt8) (s : ByteArray) (w : World) (ho : os.length = n) (hn : n ≤ 8388608) (hr : Rd w ao os) (hat : At os i s.data.toList) (hm : i + s.size = m) :
    Calls Try.prog 22 #[.slice ao n c, .int .i64 (i : Int), .string s] w fun e w' => e = .returned (.tuple #[.int .i64 (m : Int), .bool true]) ∧ ∃ q, w' = w.drewN q := by
  have hsl : s.data.toList.length = s.size := rfl
  have h1 := hat.1
  rw [hsl] at h1
  subst ho
  by_cases hs : s.size = 0
  · have : m = i := by omega
    subst this
    exact lit_none ao c _ m s w hn (by omega) hs
  · rcases hr with rfl | ⟨b, off, rfl, hc⟩
    · have h2 : i + s.size ≤ 0 := h1
      exact absurd (show s.size = 0 by omega) hs
    · refine lit_some b off c _ i m s w hn h1 hm (fun j hj => ?_)
      rw [hc (i + j) (by omega), hat.2 j hj]
      have e : s.data.toList.getD j 0 = s[j] := by
        rw [List.getD_eq_getElem?_getD, List.getElem?_eq_getElem (by simpa using hj)]
        rfl
      rw [e]

/-! ### MatchByte -/
theorem byte_some (b off c n i : Nat) (x : Int) (w : World) (hn : n ≤ 8388608) (hi : i < n) (hc : w.cell? ⟨b, off + i, none⟩ = some (.int .u8 x)) :
    Calls Try.prog 23 #[.slice (some ⟨b, off, none⟩) n c, .int .i64 (i : Int), .int .u8 x] w fun e w' => e = .returned (.tuple #[.int .i64 ((i : Int) + 1), .bool true]) ∧ w = w' := by
  have hi2 : (i : Int) < (n : Int) := by omega
  go_enter Try.func23, Try.ntmps23
  go_wp2
  go_ret2
  exact ⟨rfl, rfl⟩

/-- MatchByte where the byte stands. -/
theorem byte_any (ao : Option Addr) (c n i m : Nat) (os : List UInt8) (x : UInt8) (xi : Int) (w : World) (ho : os.length = n) (hn : n ≤ 8388608) (hr : Rd w ao os) (hat : At os i [x]) (hx : (x.toNat : Int) = xi) (hm : i + 1 = m) :
    Calls Try.prog 23 #[.slice ao n c, .int .i64 (i : Int), .int .u8 xi] w fun e w' => e = .returned (.tuple #[.int .i64 (m : Int), .bool true]) ∧ w = w' := by
  subst hm; subst hx; subst ho
  have h1 := hat.1
  simp only [List.length_singleton] at h1
  rcases hr with rfl | ⟨b, off, rfl, hc⟩
  · simp at h1
  · have h2 := hat.2 0 (by simp)
    refine (byte_some b off c _ i _ w hn (by omega) ?_).mono ?_
    · have h3 : os.getD i 0 = x := h2
      rw [hc i (by omega), h3]
    · rintro e w' ⟨rfl, rfl⟩
      exact ⟨rfl, rfl⟩

/-! ### MatchQuotedValue -/
set_option maxHeartbeats 1000000 in
theorem quoted_some (b off c n m : Nat) (s : ByteArray) (pre post : List UInt8) (w : World) (hs : s.size ≤ 1048576) (hn4 : n ≤ 8388608) (hn : (pre ++ (esc true s.data.toList ++ (34 :: post))).length = n) (hm : posIn true s.data.toList pre s.size + 1 = m)
    (i0 : Nat) (hi0 : pre.length = i0)
    (hc : ∀ j, j < (pre ++ (esc true s.data.toList ++ (34 :: post))).length → w.cell? ⟨b, off + j, none⟩ = some (.int .u8 (((pre ++ (esc true s.data.toList ++ (34 :: post))).getD j 0).toNat : Int))) :
    Calls Try.prog 24 #[.slice (some ⟨b, off, none⟩) n c, .int .i64 (i0 : Int), .string s] w fun e w' => e = .returned (.tuple #[.int .i64 (m : Int), .bool true]) ∧ w = w' := by
  have HC : Hid (∀ j, j < (pre ++ (esc true s.data.toList ++ (34 :: post))).length → w.cell? ⟨b, off + j, none⟩ = some (.int .u8 (((pre ++ (esc true s.data.toList ++ (34 :: post))).getD j 0).toNat : Int))) := hc
  have HL : Hid ((pre ++ (esc true s.data.toList ++ (34 :: post))).length = n) := hn
  have HM : Hid (posIn true s.data.toList pre s.size + 1 = m) := hm
  have HI0 : Hid (i0 = posIn true s.data.toList pre 0) := by show _ = _; rw [meets_start]; exact hi0.symm
  have hsl : s.data.toList.length = s.size := rfl
  -- the closing quote
  have HQ : Hid (∀ k, k = s.size → w.cell? ⟨b, off + posIn true s.data.toList pre k, none⟩ = some (.int .u8 34) ∧ posIn true s.data.toList pre k < n) := by
    intro k hk
    have h1 := esc_behind true s.data.toList pre (34 :: post)
    have h2 : pre.length + pos true s.data.toList s.data.toList.length = posIn true s.data.toList pre k := by rw [hk]; rfl
    have h3 := meets_end true s.data.toList pre
    rw [hsl, ← hk] at h3
    have hlt : posIn true s.data.toList pre k < n := by
      rw [← hn, h3]
      simp only [List.length_append, List.length_cons]
      omega
    refine ⟨?_, hlt⟩
    rw [hc _ (by rw [hn]; exact hlt), ← h2, h1]
    rfl
  clear hc hn hm hi0 hsl
  go_enter Try.func24, Try.ntmps24
  go_wp2
  go_loop [1, 8] (fun x y => ∃ (k i : Nat), k ≤ s.size ∧ Hid (i = posIn true s.data.toList pre k) ∧ x = .int .i64 i ∧ y = .int .i64 k) (fun _ y => s.size - (intOf y).toNat)
  case atStart => exact ⟨0, i0, Nat.zero_le _, HI0, rfl, rfl⟩
  case round =>
    obtain ⟨k, i, hk, HI, rfl, rfl⟩ := hrel
    by_cases hlt : k < s.size
    · have hm := fun r hr => meet_cells HC.out (k := k) hlt r hr
      rw [← HI.out, HL.out] at hm
      have HM2 : Hid (∀ r, esc1 true s[k] = r → (∀ j, j < r.length → w.cell? ⟨b, off + (i + j), none⟩ = some (.int .u8 ((r.getD j 0).toNat : Int))) ∧ i + r.length ≤ n ∧ posIn true s.data.toList pre (k + 1) = i + r.length) := hm
      clear hm HC HL HM HI HQ HI0
      by_cases h1 : s[k].toNat = 92
      · obtain ⟨m1, m2, m3⟩ := HM2.out _ (esc1_bs true _ h1)
        have c0 : w.cell? ⟨b, off + i, none⟩ = some (.int .u8 92) := m1 0 (by decide)
        have c1 : w.cell? ⟨b, off + (i + 1), none⟩ = some (.int .u8 92) := m1 1 (by decide)
        have H3 : Hid (posIn true s.data.toList pre (k + 1) = i + 2) := m3
        have hi : i + 1 < n := by simp at m2; omega
        have hi0 : (i : Int) < (n : Int) := by omega
        have HC1 : Hid (w.cell? ⟨b, off + (i + 1), none⟩ = some (.int .u8 92)) := c1
        clear m1 m2 m3 HM2 c1
        go_wp2_with (go_at_call 20; refine (dec_bs8 b off n c i true _ hn4 hi HC1.out).mono ?_; rintro e w' ⟨rfl, rfl⟩)
        go_round
        case rel => exact ⟨k + 1, i + 2, by omega, H3.out.symm, by go_num, by go_num⟩
        case measure => simp [intOf]; omega
      · have h1' : ((s[k].toNat : Int) == 92) = false := by simp; omega
        by_cases h2 : s[k].toNat = 10
        · obtain ⟨m1, m2, m3⟩ := HM2.out _ (esc1_lf true _ h2)
          have c0 : w.cell? ⟨b, off + i, none⟩ = some (.int .u8 92) := m1 0 (by decide)
          have c1 : w.cell? ⟨b, off + (i + 1), none⟩ = some (.int .u8 110) := m1 1 (by decide)
          have H3 : Hid (posIn true s.data.toList pre (k + 1) = i + 2) := m3
          have hi : i + 1 < n := by simp at m2; omega
          have hi0 : (i : Int) < (n : Int) := by omega
          have HC1 : Hid (w.cell? ⟨b, off + (i + 1), none⟩ = some (.int .u8 110)) := c1
          clear m1 m2 m3 HM2 c1
          go_wp2_with (go_at_call 20; refine (dec_lf8 b off n c i true _ hn4 hi HC1.out).mono ?_; rintro e w' ⟨rfl, rfl⟩)
          go_round
          case rel => exact ⟨k + 1, i + 2, by omega, H3.out.symm, by go_num, by go_num⟩
          case measure => simp [intOf]; omega
        · have h2' : ((s[k].toNat : Int) == 10) = false := by simp; omega
          by_cases h3 : s[k].toNat = 34
          · obtain ⟨m1, m2, m3⟩ := HM2.out _ (esc1_dq _ h3)
            have c0 : w.cell? ⟨b, off + i, none⟩ = some (.int .u8 92) := m1 0 (by decide)
            have c1 : w.cell? ⟨b, off + (i + 1), none⟩ = some (.int .u8 34) := m1 1 (by decide)
            have H3 : Hid (posIn true s.data.toList pre (k + 1) = i + 2) := m3
            have hi : i + 1 < n := by simp at m2; omega
            have hi0 : (i : Int) < (n : Int) := by omega
            have HC1 : Hid (w.cell? ⟨b, off + (i + 1), none⟩ = some (.int .u8 34)) := c1
            clear m1 m2 m3 HM2 c1
            go_wp2_with (go_at_call 20; refine (dec_dq8 b off n c i _ hn4 hi HC1.out).mono ?_; rintro e w' ⟨rfl, rfl⟩)
            go_round
            case rel => exact ⟨k + 1, i + 2, by omega, H3.out.symm, by go_num, by go_num⟩
            case measure => simp [intOf]; omega
          · have h3' : ((s[k].toNat : Int) == 34) = false := by simp; omega
            obtain ⟨m1, m2, m3⟩ := HM2.out _ (esc1_raw true _ h1 h2 (fun h => h3 h.1))
            have c0 : w.cell? ⟨b, off + i, none⟩ = some (.int .u8 (s[k].toNat : Int)) := m1 0 (by simp)
            have H3 : Hid (posIn true s.data.toList pre (k + 1) = i + 1) := m3
            have hi0 : (i : Int) < (n : Int) := by simp at m2; omega
            clear m1 m2 m3 HM2
            go_wp2
            go_round
            case rel => exact ⟨k + 1, i + 1, by omega, H3.out.symm, by go_num, by go_num⟩
            case measure => simp [intOf]; omega
    · have hks : k = s.size := by omega
      obtain ⟨c0, hi⟩ := HQ.out k hks
      rw [← HI.out] at c0 hi
      have hi0 : (i : Int) < (n : Int) := by omega
      have hke : ((k : Int) == (s.size : Int)) = true := by simp [hks]
      have HE : Hid ((m : Int) = (i : Int) + 1) := by
        show _ = _
        have h1 := HM.out
        rw [← hks, ← HI.out] at h1
        omega
      clear HI HC HL HM HQ HI0 hks hlt hk hi
      go_wp2
      go_ret2
      refine ⟨?_, rfl⟩
      rw [HE.out]
      rfl

/-- MatchQuotedValue where an escaped value and its closing quote stand. -/
theorem quoted_any (ao : Option Addr) (c n i m : Nat) (os : List UInt8) (s : ByteArray) (w : World) (hs : s.size ≤ 1048576) (ho : os.length = n) (hn : n ≤ 8388608) (hr : Rd w ao os) (hat : At os i (esc true s.data.toList ++ [34])) (hm : i + ((esc true s.data.toList).length + 1) = m) :
    Calls Try.prog 24 #[.slice ao n c, .int .i64 (i : Int), .string s] w fun e w' => e = .returned (.tuple #[.int .i64 (m : Int), .bool true]) ∧ w = w' := by
  have h1 := hat.1
  simp only [List.length_append, List.length_singleton] at h1
  rcases hr with rfl | ⟨b, off, rfl, hc⟩
  · simp at h1
  · obtain ⟨hsp, hl⟩ := hat.split
    have hsp2 : os = os.take i ++ (esc true s.data.toList ++ (34 :: os.drop (i + (esc true s.data.toList ++ [34]).length))) := by
      refine hsp.trans ?_
      simp
    have hme := meets_end true s.data.toList (os.take i)
    have hsl : s.data.toList.length = s.size := rfl
    rw [hsl, hl] at hme
    refine quoted_some b off c n m s (os.take i) (os.drop (i + (esc true s.data.toList ++ [34]).length)) w hs hn (by rw [← hsp2]; exact ho) (by rw [hme]; omega) i hl ?_
    rw [← hsp2]
    exact hc

end Go.Proofs.Qxb6605486a
