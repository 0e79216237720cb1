/-
  THE WALKS of the functions that only read bytes: zzExB1HasPrefix (9), zzExB1EqBytes (12), zzExB1DecodeEscape (20), zzExB1StrictDecodeEquals (10).
-/
import Derived.Test.Qxb6605486aClone
namespace Go.Proofs.Qxb6605486a
open Go.ChangeShapes Go.WideShapes Go.ChangeAt Go.RowKit

theorem ret_bool {a b : Bool} (h : a = b) : Ending.returned (.bool a) = .returned (.bool b) := by rw [h]

/-! ### HasPrefix -/
set_option maxHeartbeats 400000 in
theorem prefix_some (b off c b' off' c' n m : Nat) (f : Nat → Int) (w : World) (hm : m ≤ n) (hn : n ≤ 4194304)
    (hx : ∀ j, j < m → w.cell? ⟨b, off + j, none⟩ = some (.int .u8 (f j)))
    (hy : ∀ j, j < m → w.cell? ⟨b', off' + j, none⟩ = some (.int .u8 (f j))) :
    Calls Try.prog 9 #[.slice (some ⟨b, off, none⟩) n c, .slice (some ⟨b', off', none⟩) m c'] w fun e w' => e = .returned (.bool true) ∧ ∃ q, w' = w.drewN q := by
  go_enter Try.func9, Try.ntmps9
  go_wp2
  go_loopw [5] (fun i wr => ∃ (k q : Nat), k ≤ m ∧ i = .int .i64 k ∧ wr = w.drewN q) (fun i _ => m - (intOf i).toNat)
  case atStart => exact ⟨0, 0, Nat.zero_le _, rfl, rfl⟩
  case round =>
    obtain ⟨k, q, hk, rfl, rfl⟩ := hrel
    by_cases hlt : k < m
    · have hxk := hx k hlt
      have hyk := hy k hlt
      have hi1 : (k : Int) < (n : Int) := by omega
      have hi2 : (k : Int) < (m : Int) := by omega
      clear hx hy
      go_wp2
      go_quiet (fail)
      go_wp2
      go_roundw
      case rel => exact ⟨k + 1, _, by omega, by go_num, rfl⟩
      case measure => simp [intOf]; omega
    · clear hx hy
      go_wp2
      go_ret
      exact ⟨rfl, _, rfl⟩

theorem prefix_none (ao bo : Option Addr) (c c' n : Nat) (w : World) :
    Calls Try.prog 9 #[.slice ao n c, .slice bo 0 c'] w fun e w' => e = .returned (.bool true) ∧ ∃ q, w' = w.drewN q := by
  go_enter Try.func9, Try.ntmps9
  go_wp2
  go_loop [5] (fun i => i = .int .i64 0) (fun _ => 0)
  case atStart => rfl
  case round =>
    subst hrel
    go_wp2
    go_ret
    exact ⟨rfl, 0, rfl⟩

/-- out begins with p: HasPrefix says yes. -/
theorem prefix_any (ao bo : Option Addr) (c c' : Nat) (p r : List UInt8) (w : World) (hn : (p ++ r).length ≤ 4194304) (hx : Rd w ao (p ++ r)) (hy : Rd w bo p) :
    Calls Try.prog 9 #[.slice ao (p ++ r).length c, .slice bo p.length c'] w fun e w' => e = .returned (.bool true) ∧ ∃ q, w' = w.drewN q := by
  rcases hy with rfl | ⟨b', off', rfl, hy⟩
  · exact prefix_none ao bo c c' _ w
  · rcases hx with hx | ⟨b, off, rfl, hx⟩
    · obtain ⟨rfl, _⟩ := List.append_eq_nil_iff.1 hx
      exact prefix_none ao _ c c' _ w
    · refine prefix_some b off c b' off' c' (p ++ r).length p.length (fun j => ((p.getD j 0).toNat : Int)) w (by simp) hn (fun j hj => ?_) hy
      rw [hx j (by simp; omega)]
      simp [List.getD_eq_getElem?_getD, List.getElem?_append_left hj]

/-! ### EqBytes -/
set_option maxHeartbeats 400000 in
theorem eq_some (b off c b' off' c' n : Nat) (f : Nat → Int) (w : World) (hn : n ≤ 4194304)
    (hx : ∀ j, j < n → w.cell? ⟨b, off + j, none⟩ = some (.int .u8 (f j)))
    (hy : ∀ j, j < n → w.cell? ⟨b', off' + j, none⟩ = some (.int .u8 (f j))) :
    Calls Try.prog 12 #[.slice (some ⟨b, off, none⟩) n c, .slice (some ⟨b', off', none⟩) n c'] w fun e w' => e = .returned (.bool true) ∧ ∃ q, w' = w.drewN q := by
  go_enter Try.func12, Try.ntmps12
  go_wp2
  go_loopw [5] (fun i wr => ∃ (k q : Nat), k ≤ n ∧ i = .int .i64 k ∧ wr = w.drewN q) (fun i _ => n - (intOf i).toNat)
  case atStart => exact ⟨0, 0, Nat.zero_le _, rfl, rfl⟩
  case round =>
    obtain ⟨k, q, hk, rfl, rfl⟩ := hrel
    by_cases hlt : k < n
    · have hxk := hx k hlt
      have hyk := hy k hlt
      have hi1 : (k : Int) < (n : Int) := by omega
      clear hx hy
      go_wp2
      go_quiet (fail)
      go_wp2
      go_roundw
      case rel => exact ⟨k + 1, _, by omega, by go_num, rfl⟩
      case measure => simp [intOf]; omega
    · clear hx hy
      go_wp2
      go_ret
      exact ⟨rfl, _, rfl⟩

theorem eq_none (ao bo : Option Addr) (c c' : Nat) (w : World) :
    Calls Try.prog 12 #[.slice ao 0 c, .slice bo 0 c'] w fun e w' => e = .returned (.bool true) ∧ ∃ q, w' = w.drewN q := by
  go_enter Try.func12, Try.ntmps12
  go_wp2
  go_loop [5] (fun i => i = .int .i64 0) (fun _ => 0)
  case atStart => rfl
  case round =>
    subst hrel
    go_wp2
    go_ret
    exact ⟨rfl, 0, rfl⟩

theorem eq_any (ao bo : Option Addr) (c c' : Nat) (p : List UInt8) (w : World) (hn : p.length ≤ 4194304) (hx : Rd w ao p) (hy : Rd w bo p) :
    Calls Try.prog 12 #[.slice ao p.length c, .slice bo p.length c'] w fun e w' => e = .returned (.bool true) ∧ ∃ q, w' = w.drewN q := by
  rcases hy with rfl | ⟨b', off', rfl, hy⟩
  · exact eq_none ao bo c c' w
  · rcases hx with rfl | ⟨b, off, rfl, hx⟩
    · exact eq_none ao _ c c' w
    · exact eq_some b off c b' off' c' p.length (fun j => ((p.getD j 0).toNat : Int)) w hn hx hy

/-! ### DecodeEscape, where the byte behind the backslash is one of the three -/
theorem dec_bs (b off n c i : Nat) (q : Bool) (w : World) (hn : n ≤ 4194304) (hi : i + 1 < n) (hc : w.cell? ⟨b, off + (i + 1), none⟩ = some (.int .u8 92)) :
    Calls Try.prog 20 #[.slice (some ⟨b, off, none⟩) n c, .int .i64 (i : Int), .bool q] w fun e w' => e = .returned (.tuple #[.int .u8 92, .bool true]) ∧ w = w' := by
  have hi2 : (i : Int) + 1 < (n : Int) := by omega
  go_enter Try.func20, Try.ntmps20
  go_wp2
  go_ret2
  exact ⟨rfl, rfl⟩

theorem dec_lf (b off n c i : Nat) (q : Bool) (w : World) (hn : n ≤ 4194304) (hi : i + 1 < n) (hc : w.cell? ⟨b, off + (i + 1), none⟩ = some (.int .u8 110)) :
    Calls Try.prog 20 #[.slice (some ⟨b, off, none⟩) n c, .int .i64 (i : Int), .bool q] w fun e w' => e = .returned (.tuple #[.int .u8 10, .bool true]) ∧ w = w' := by
  have hi2 : (i : Int) + 1 < (n : Int) := by omega
  go_enter Try.func20, Try.ntmps20
  go_wp2
  go_ret2
  exact ⟨rfl, rfl⟩

theorem dec_dq (b off n c i : Nat) (w : World) (hn : n ≤ 4194304) (hi : i + 1 < n) (hc : w.cell? ⟨b, off + (i + 1), none⟩ = some (.int .u8 34)) :
    Calls Try.prog 20 #[.slice (some ⟨b, off, none⟩) n c, .int .i64 (i : Int), .bool true] w fun e w' => e = .returned (.tuple #[.int .u8 34, .bool true]) ∧ w = w' := by
  have hi2 : (i : Int) + 1 < (n : Int) := by omega
  go_enter Try.func20, Try.ntmps20
  go_wp2
  go_ret2
  exact ⟨rfl, rfl⟩

/-! ### StrictDecodeEquals at what appendEscaped writes -/
/-- The cells that a decoder meets at byte k's place. -/
theorem meet_cells {w : World} {b off : Nat} {q : Bool} {l pre post : List UInt8} (hc : ∀ j, j < (pre ++ (esc q l ++ post)).length → w.cell? ⟨b, off + j, none⟩ = some (.int .u8 (((pre ++ (esc q l ++ post)).getD j 0).toNat : Int)))
    {k : Nat} (h : k < l.length) (r : List UInt8) (hr : esc1 q l[k] = r) :
    (∀ j, j < r.length → w.cell? ⟨b, off + (posIn q l pre k + j), none⟩ = some (.int .u8 ((r.getD j 0).toNat : Int))) ∧ posIn q l pre k + r.length ≤ (pre ++ (esc q l ++ post)).length ∧ posIn q l pre (k + 1) = posIn q l pre k + r.length := by
  obtain ⟨h1, h2, h3⟩ := meets q l pre post k h r hr
  refine ⟨fun j hj => ?_, h2, h3⟩
  rw [hc _ (by omega), h1 j hj]

set_option maxHeartbeats 1000000 in
theorem strict_some (b off c n : Nat) (s : ByteArray) (q : Bool) (w : World) (hs : s.size ≤ 1048576) (hn : (esc q s.data.toList).length = n) (hn4 : n ≤ 4194304)
    (hc : ∀ j, j < (esc q s.data.toList).length → w.cell? ⟨b, off + j, none⟩ = some (.int .u8 (((esc q s.data.toList).getD j 0).toNat : Int))) :
    Calls Try.prog 10 #[.slice (some ⟨b, off, none⟩) n c, .string s, .bool q] w fun e w' => e = .returned (.bool true) ∧ w = w' := by
  have HC : Hid (∀ j, j < ([] ++ (esc q s.data.toList ++ [])).length → w.cell? ⟨b, off + j, none⟩ = some (.int .u8 ((([] ++ (esc q s.data.toList ++ [])).getD j 0).toNat : Int))) := by
    show ∀ j, _
    simpa using hc
  have HL : Hid (([] ++ (esc q s.data.toList ++ [])).length = n) := by show _ = _; simpa using hn
  have HP : Hid (posIn q s.data.toList [] s.size = n) := by
    have h1 := meets_end q s.data.toList []
    have h2 : s.data.toList.length = s.size := rfl
    show _ = _
    rw [h2] at h1
    rw [h1, ← hn]
    simp
  clear hc hn
  go_enter Try.func10, Try.ntmps10
  go_wp2
  go_loop [7, 8] (fun x y => ∃ (k i : Nat), k ≤ s.size ∧ Hid (i = posIn q s.data.toList [] k) ∧ x = .int .i64 i ∧ y = .int .i64 k) (fun _ y => s.size - (intOf y).toNat)
  case atStart => exact ⟨0, 0, Nat.zero_le _, (meets_start q s.data.toList []).symm, rfl, rfl⟩
  case round =>
    obtain ⟨k, i, hk, HI, rfl, rfl⟩ := hrel
    by_cases hlt : k < s.size
    · have hm := fun r hr => meet_cells HC.out (k := k) hlt r hr
      rw [← HI.out, HL.out] at hm
      have HM : Hid (∀ r, esc1 q s[k] = r → (∀ j, j < r.length → w.cell? ⟨b, off + (i + j), none⟩ = some (.int .u8 ((r.getD j 0).toNat : Int))) ∧ i + r.length ≤ n ∧ posIn q s.data.toList [] (k + 1) = i + r.length) := hm
      clear hm HC HL HP HI
      by_cases h1 : s[k].toNat = 92
      · obtain ⟨m1, m2, m3⟩ := HM.out _ (esc1_bs q _ h1)
        have c0 : w.cell? ⟨b, off + i, none⟩ = some (.int .u8 92) := m1 0 (by decide)
        have c1 : w.cell? ⟨b, off + (i + 1), none⟩ = some (.int .u8 92) := m1 1 (by decide)
        have H3 : Hid (posIn q s.data.toList [] (k + 1) = i + 2) := m3
        have hi : i + 1 < n := by simp at m2; omega
        have hi0 : (i : Int) < (n : Int) := by omega
        have HC1 : Hid (w.cell? ⟨b, off + (i + 1), none⟩ = some (.int .u8 92)) := c1
        clear m1 m2 m3 HM c1
        go_wp2_with (go_at_call 20; refine (dec_bs b off n c i q _ hn4 hi HC1.out).mono ?_; rintro e w' ⟨rfl, rfl⟩)
        go_round
        case rel => exact ⟨k + 1, i + 2, by omega, H3.out.symm, by go_num, by go_num⟩
        case measure => simp [intOf]; omega
      · have h1' : ((s[k].toNat : Int) == 92) = false := by simp; omega
        by_cases h2 : s[k].toNat = 10
        · obtain ⟨m1, m2, m3⟩ := HM.out _ (esc1_lf q _ h2)
          have c0 : w.cell? ⟨b, off + i, none⟩ = some (.int .u8 92) := m1 0 (by decide)
          have c1 : w.cell? ⟨b, off + (i + 1), none⟩ = some (.int .u8 110) := m1 1 (by decide)
          have H3 : Hid (posIn q s.data.toList [] (k + 1) = i + 2) := m3
          have hi : i + 1 < n := by simp at m2; omega
          have hi0 : (i : Int) < (n : Int) := by omega
          have HC1 : Hid (w.cell? ⟨b, off + (i + 1), none⟩ = some (.int .u8 110)) := c1
          clear m1 m2 m3 HM c1
          go_wp2_with (go_at_call 20; refine (dec_lf b off n c i q _ hn4 hi HC1.out).mono ?_; rintro e w' ⟨rfl, rfl⟩)
          go_round
          case rel => exact ⟨k + 1, i + 2, by omega, H3.out.symm, by go_num, by go_num⟩
          case measure => simp [intOf]; omega
        · have h2' : ((s[k].toNat : Int) == 10) = false := by simp; omega
          by_cases h3 : s[k].toNat = 34 ∧ q = true
          · obtain ⟨h3, rfl⟩ := h3
            obtain ⟨m1, m2, m3⟩ := HM.out _ (esc1_dq _ h3)
            have c0 : w.cell? ⟨b, off + i, none⟩ = some (.int .u8 92) := m1 0 (by decide)
            have c1 : w.cell? ⟨b, off + (i + 1), none⟩ = some (.int .u8 34) := m1 1 (by decide)
            have H3 : Hid (posIn true s.data.toList [] (k + 1) = i + 2) := m3
            have hi : i + 1 < n := by simp at m2; omega
            have hi0 : (i : Int) < (n : Int) := by omega
            have HC1 : Hid (w.cell? ⟨b, off + (i + 1), none⟩ = some (.int .u8 34)) := c1
            clear m1 m2 m3 HM c1
            go_wp2_with (go_at_call 20; refine (dec_dq b off n c i _ hn4 hi HC1.out).mono ?_; rintro e w' ⟨rfl, rfl⟩)
            go_round
            case rel => exact ⟨k + 1, i + 2, by omega, H3.out.symm, by go_num, by go_num⟩
            case measure => simp [intOf]; omega
          · obtain ⟨m1, m2, m3⟩ := HM.out _ (esc1_raw q _ h1 h2 h3)
            have c0 : w.cell? ⟨b, off + i, none⟩ = some (.int .u8 (s[k].toNat : Int)) := m1 0 (by simp)
            have H3 : Hid (posIn q s.data.toList [] (k + 1) = i + 1) := m3
            have hi0 : (i : Int) < (n : Int) := by simp at m2; omega
            have hb := s[k].toNat_lt
            have hb : s[k].toNat < 256 := hb
            clear m1 m2 m3 HM
            by_cases h4 : s[k].toNat = 34
            · have hq : q = false := by cases q <;> simp_all
              subst hq
              clear h3
              go_wp2
              go_round
              case rel => exact ⟨k + 1, i + 1, by omega, H3.out.symm, by go_num, by go_num⟩
              case measure => simp [intOf]; omega
            · have h4' : ((s[k].toNat : Int) == 34) = false := by simp; omega
              clear h3
              go_wp2
              go_round
              case rel => exact ⟨k + 1, i + 1, by omega, H3.out.symm, by go_num, by go_num⟩
              case measure => simp [intOf]; omega
    · have hks : k = s.size := by omega
      have hi0 : ¬ (i : Int) < (n : Int) := by
        have h1 := HI.out
        have h2 := HP.out
        rw [hks] at h1
        omega
      have hke : ((k : Int) == (s.size : Int)) = true := by simp [hks]
      clear HI HP HC HL hks hlt hk
      go_wp2
      go_ret
      exact ⟨rfl, rfl⟩

theorem strict_none (ao : Option Addr) (c : Nat) (s : ByteArray) (q : Bool) (w : World) (hs : s.size = 0) :
    Calls Try.prog 10 #[.slice ao 0 c, .string s, .bool q] w fun e w' => e = .returned (.bool true) ∧ w = w' := by
  go_enter Try.func10, Try.ntmps10
  go_wp2
  go_loop [7, 8] (fun x y => x = .int .i64 0 ∧ y = .int .i64 0) (fun _ _ => 0)
  case atStart => exact ⟨rfl, rfl⟩
  case round =>
    obtain ⟨rfl, rfl⟩ := hrel
    go_wp2
    go_ret
    exact ⟨rfl, rfl⟩

/-- What appendEscaped writes for s decodes to s. -/
theorem strict_any (ao : Option Addr) (c : Nat) (s : ByteArray) (q : Bool) (w : World) (hs : s.size ≤ 1048576) (hc : Rd w ao (esc q s.data.toList)) :
    Calls Try.prog 10 #[.slice ao (esc q s.data.toList).length c, .string s, .bool q] w fun e w' => e = .returned (.bool true) ∧ w = w' := by
  have hl := esc_len q s.data.toList
  have h2 : s.data.toList.length = s.size := rfl
  rw [h2] at hl
  rcases hc with h | ⟨b, off, rfl, hc⟩
  · rw [h] at hl ⊢
    exact strict_none ao c s q w (Nat.le_zero.1 hl.1)
  · exact strict_some b off c _ s q w hs rfl (by omega) hc

end Go.Proofs.Qxb6605486a
