/-
  THE WALK of appendEscaped (function 19), and of ZZAppendEscaped (function 8).
-/
import Derived.Test.Qxb6605486aOwn
namespace Go.Proofs.Qxb6605486a
open Go.ChangeShapes Go.WideShapes Go.ChangeAt Go.RowKit

theorem s_get (s : ByteArray) (k : Nat) (_h : k < s.size) (h' : k < s.data.toList.length) : s.data.toList[k] = s[k] := rfl

/-- What the round leaves. -/
theorem esc_next {s : ByteArray} {q : Bool} {xs ys : List UInt8} {k : Nat} (hk : k < s.size) (hy : ys = xs ++ esc q (s.data.toList.take k)) {r : List UInt8} (hr : esc1 q s[k] = r) :
    ys ++ r = xs ++ esc q (s.data.toList.take (k + 1)) := by
  rw [esc_step q s.data.toList k (by simpa using hk), s_get s k hk, hr, hy, List.append_assoc]

set_option maxHeartbeats 1000000 in
theorem esc_any (B : Nat) (v : Value) (xs : List UInt8) (s : ByteArray) (q : Bool) (w : World) (hown : Own w B v xs) (hlen : xs.length + 2 * s.size ≤ 70368744177664) :
    Calls Try.prog 19 #[v, .string s, .bool q] w fun e w' => ∃ v', e = .returned v' ∧ Own w' B v' (xs ++ esc q s.data.toList) ∧ Below B w w' := by
  go_enter Try.func19, Try.ntmps19
  go_wp2
  go_loopw [0, 11] (fun v i wr => ∃ (k : Nat) (ys : List UInt8), k ≤ s.size ∧ i = .int .i64 k ∧ Hid (ys = xs ++ esc q (s.data.toList.take k)) ∧ Hid (Own wr B v ys) ∧ Hid (Below B w wr)) (fun _ i _ => s.size - (intOf i).toNat)
  case atStart => exact ⟨0, xs, Nat.zero_le _, rfl, show xs = _ by simp [esc], hown, Below.refl _ _⟩
  case round =>
    obtain ⟨k, ys, hk, rfl, HY, HO, HB⟩ := hrel
    clear hown
    have hyl : ys.length ≤ xs.length + 2 * k := by
      have := esc_len q (s.data.toList.take k)
      rw [HY.out, List.length_append]
      have h2 : (s.data.toList.take k).length ≤ k := List.length_take_le _ _
      omega
    by_cases hlt : k < s.size
    · have hn : ∀ r, esc1 q s[k] = r → ys ++ r = xs ++ esc q (s.data.toList.take (k + 1)) := fun r hr => esc_next hlt HY.out hr
      have HN : Hid (∀ r, esc1 q s[k] = r → ys ++ r = xs ++ esc q (s.data.toList.take (k + 1))) := hn
      clear hn HY
      by_cases h1 : s[k].toNat = 92
      · have HE : Hid (ys ++ [92, 92] = xs ++ esc q (s.data.toList.take (k + 1))) := HN.out _ (esc1_bs q _ h1)
        clear HN
        go_wp2_with (at_builtin; refine app_str _ rfl _ _ rfl B u0 ys rfl _ rfl HO.out (by show ys.length + 2 ≤ _; omega) ?_)
        intro v' w1 ho1 hb1
        have HO1 : Hid (Own w1 B v' (ys ++ [92, 92])) := ho1
        have HB1 : Hid (Below B w w1) := HB.out.trans hb1
        clear ho1 hb1 HO HB
        go_wp2
        go_roundw
        case rel => exact ⟨k + 1, _, by omega, by go_num, HE, HO1, HB1⟩
        case measure => simp [intOf]; omega
      · have h1' : ((s[k].toNat : Int) == 92) = false := by simp; omega
        by_cases h2 : s[k].toNat = 10
        · have HE : Hid (ys ++ [92, 110] = xs ++ esc q (s.data.toList.take (k + 1))) := HN.out _ (esc1_lf q _ h2)
          clear HN
          go_wp2_with (at_builtin; refine app_str _ rfl _ _ rfl B u0 ys rfl _ rfl HO.out (by show ys.length + 2 ≤ _; omega) ?_)
          intro v' w1 ho1 hb1
          have HO1 : Hid (Own w1 B v' (ys ++ [92, 110])) := ho1
          have HB1 : Hid (Below B w w1) := HB.out.trans hb1
          clear ho1 hb1 HO HB
          go_wp2
          go_roundw
          case rel => exact ⟨k + 1, _, by omega, by go_num, HE, HO1, HB1⟩
          case measure => simp [intOf]; omega
        · have h2' : ((s[k].toNat : Int) == 10) = false := by simp; omega
          by_cases h3 : s[k].toNat = 34
          · cases q with
            | true =>
              have HE : Hid (ys ++ [92, 34] = xs ++ esc true (s.data.toList.take (k + 1))) := HN.out _ (esc1_dq _ h3)
              clear HN
              go_wp2_with (at_builtin; refine app_str _ rfl _ _ rfl B u0 ys rfl _ rfl HO.out (by show ys.length + 2 ≤ _; omega) ?_)
              intro v' w1 ho1 hb1
              have HO1 : Hid (Own w1 B v' (ys ++ [92, 34])) := ho1
              have HB1 : Hid (Below B w w1) := HB.out.trans hb1
              clear ho1 hb1 HO HB
              go_wp2
              go_roundw
              case rel => exact ⟨k + 1, _, by omega, by go_num, HE, HO1, HB1⟩
              case measure => simp [intOf]; omega
            | false =>
              have HE : Hid (ys ++ [s[k]] = xs ++ esc false (s.data.toList.take (k + 1))) := HN.out _ (esc1_raw false _ h1 h2 (by simp))
              clear HN
              have hc : (34 : Int) = (s[k].toNat : Int) := by omega
              have HC : Hid ((34 : Int) = (s[k].toNat : Int)) := hc
              clear hc
              go_wp2_with (at_builtin; refine app_one _ rfl _ _ rfl B u0 ys rfl _ rfl s[k] HC.out HO.out (by omega) ?_)
              intro v' w1 ho1 hb1
              have HO1 : Hid (Own w1 B v' (ys ++ [s[k]])) := ho1
              have HB1 : Hid (Below B w w1) := HB.out.trans hb1
              clear ho1 hb1 HO HB
              go_wp2
              go_roundw
              case rel => exact ⟨k + 1, _, by omega, by go_num, HE, HO1, HB1⟩
              case measure => simp [intOf]; omega
          · have h3' : ((s[k].toNat : Int) == 34) = false := by simp; omega
            have HE : Hid (ys ++ [s[k]] = xs ++ esc q (s.data.toList.take (k + 1))) := HN.out _ (esc1_raw q _ h1 h2 (fun h => h3 h.1))
            clear HN
            go_wp2_with (at_builtin; refine app_one _ rfl _ _ rfl B u0 ys rfl _ rfl s[k] rfl HO.out (by omega) ?_)
            intro v' w1 ho1 hb1
            have HO1 : Hid (Own w1 B v' (ys ++ [s[k]])) := ho1
            have HB1 : Hid (Below B w w1) := HB.out.trans hb1
            clear ho1 hb1 HO HB
            go_wp2
            go_roundw
            case rel => exact ⟨k + 1, _, by omega, by go_num, HE, HO1, HB1⟩
            case measure => simp [intOf]; omega
    · have HY' : Hid (ys = xs ++ esc q s.data.toList) := by
        have := HY.out
        rw [List.take_of_length_le (by simp; omega)] at this
        exact this
      clear HY
      go_wp2
      go_ret
      exact ⟨_, rfl, by rw [← HY'.out]; exact HO.out, HB.out⟩

theorem zzesc_any (B : Nat) (v : Value) (xs : List UInt8) (s : ByteArray) (q : Bool) (w : World) (hown : Own w B v xs) (hlen : xs.length + 2 * s.size ≤ 70368744177664) :
    Calls Try.prog 8 #[v, .string s, .bool q] w fun e w' => ∃ v', e = .returned v' ∧ Own w' B v' (xs ++ esc q s.data.toList) ∧ Below B w w' := by
  go_enter Try.func8, Try.ntmps8
  go_wp2_with fail
  refine (esc_any B v xs s q w hown hlen).mono ?_
  rintro e w' ⟨v', rfl, ho, hb⟩
  have HO : Hid (Own w' B v' (xs ++ esc q s.data.toList)) := ho
  have HB : Hid (Below B w w') := hb
  clear ho hb hown
  go_wp2
  go_ret
  exact ⟨_, rfl, HO.out, HB.out⟩

end Go.Proofs.Qxb6605486a
