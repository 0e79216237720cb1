/-
  THE WALKS of the functions on the roads of the five laws over attestree's tile arithmetic: each Go function computes a plain function of Qxb6605455aPlain.
-/
import Derived.Test.Qxb6605455aRows
import Derived.Test.Qxb6605455aPlain
import Derived.WalkKit
import Derived.ProofKit
import Derived.OpenShut
import Derived.Outline
namespace Go.Proofs.Qxb6605455a
open Go.ChangeShapes Go.WideShapes Go.ChangeAt Go.RowKit

theorem ret_int {k : IntKind} {a b : Int} (h : a = b) : Ending.returned (.int k a) = .returned (.int k b) := by rw [h]

theorem lev_pos (l : Int) (h0 : 0 ≤ l) (h : l ≤ 65537) (w : World) :
    Calls Try.prog 14 #[.int .i64 l] w fun e w' => e = .returned (.int .i64 (l * 8)) ∧ w = w' := by
  go_enter Try.func14, Try.ntmps14
  go_wp2
  go_ret
  exact ⟨rfl, rfl⟩

theorem lev_neg (l : Int) (h0 : l < 0) (w : World) :
    Calls Try.prog 14 #[.int .i64 l] w fun e w' => e = .returned (.int .i64 0) ∧ w = w' := by
  go_enter Try.func14, Try.ntmps14
  go_wp2
  go_ret
  exact ⟨rfl, rfl⟩

theorem shr_sem (s l : Int) (s0 : 0 ≤ s) (s1 : s ≤ 18446744073709551615) (h0 : 0 ≤ l) : Op.shift .shr .u64 s .i64 (l * 8) = pure (.int .u64 (lh s l)) := by
  rw [← shr_lh s l s0 s1 h0]
  exact shift_shr_any .u64 .i64 s (l * 8) (by omega)

theorem hashes_any (s l : Int) (s0 : 0 ≤ s) (s1 : s ≤ 18446744073709551615) (h : l ≤ 65537) (w : World) :
    Calls Try.prog 13 #[.int .u64 s, .int .i64 l] w fun e w' => e = .returned (.int .u64 (lh s l)) ∧ w = w' := by
  by_cases h0 : 0 ≤ l
  · have hs := shr_sem s l s0 s1 h0
    go_enter Try.func13, Try.ntmps13
    go_wp2_with (go_at_call 14; refine (lev_pos _ h0 h _).mono ?_; rintro e w' ⟨rfl, rfl⟩)
    go_ret
    exact ⟨rfl, rfl⟩
  · rw [lh_low s l (by omega)]
    go_enter Try.func13, Try.ntmps13
    go_wp2_with (go_at_call 14; refine (lev_neg _ (by omega) _).mono ?_; rintro e w' ⟨rfl, rfl⟩)
    go_ret
    exact ⟨by simp, rfl⟩

theorem levels_any (s : Int) (s0 : 0 ≤ s) (s1 : s ≤ 18446744073709551615) (w : World) :
    Calls Try.prog 11 #[.int .u64 s] w fun e w' => e = .returned (.int .i64 (tl s)) ∧ w = w' := by
  have hb := tl_bd s
  go_enter Try.func11, Try.ntmps11
  go_wp2
  go_loop [3] (fun t => ∃ k : Int, 0 ≤ k ∧ k ≤ tl s ∧ t = .int .i64 k) (fun t => (tl s - intOf t).toNat)
  case atStart => exact ⟨0, by omega, by omega, rfl⟩
  case round =>
    obtain ⟨k, hk0, hk1, rfl⟩ := hrel
    have hat := tl_at s k s0 s1 hk0 hk1
    by_cases hlt : k < tl s
    · have hp : 0 < lh s k := hat.2 hlt
      clear hat
      go_wp2_with (go_at_call 13; refine (hashes_any _ _ s0 s1 (by omega) _).mono ?_; rintro e w' ⟨rfl, rfl⟩)
      go_round
      case rel => exact ⟨k + 1, by omega, by omega, rfl⟩
      case measure => simp [intOf]; omega
    · have hp : ¬ 0 < lh s k := fun h => hlt (hat.1 h)
      have HE : Hid (k = tl s) := by show k = tl s; omega
      clear hat
      go_wp2_with (go_at_call 13; refine (hashes_any _ _ s0 s1 (by omega) _).mono ?_; rintro e w' ⟨rfl, rfl⟩)
      go_ret
      exact ⟨ret_int HE.out, rfl⟩

theorem edge_any (s l : Int) (s0 : 0 ≤ s) (s1 : s ≤ 18446744073709551615) (h : l ≤ 65537) (w : World) :
    Calls Try.prog 12 #[.int .u64 s, .int .i64 l] w fun e w' => e = .returned (.tuple #[.int .u64 (lh s l / 256), .int .i64 (lh s l % 256)]) ∧ w = w' := by
  have h0 := lh_nonneg s l s0
  have h1 := lh_le s l s0
  go_enter Try.func12, Try.ntmps12
  go_wp2_with (go_at_call 13; refine (hashes_any _ _ s0 s1 h _).mono ?_; rintro e w' ⟨rfl, rfl⟩)
  go_ret2
  exact ⟨rfl, rfl⟩

theorem width_any (s l n : Int) (s0 : 0 ≤ s) (s1 : s ≤ 18446744073709551615) (h : l ≤ 65537) (w : World) :
    Calls Try.prog 9 #[.int .u64 s, .int .i64 l, .int .u64 n] w fun e w' => e = .returned (.int .i64 (tw s l n)) ∧ w = w' := by
  unfold tw
  by_cases h1 : n < lh s l / 256
  · rw [if_pos h1]
    go_enter Try.func9, Try.ntmps9
    go_wp2_with (go_at_call 12; refine (edge_any _ _ s0 s1 h _).mono ?_; rintro e w' ⟨rfl, rfl⟩)
    go_ret
    exact ⟨rfl, rfl⟩
  · rw [if_neg h1]
    by_cases h2 : (n == lh s l / 256) = true
    · rw [if_pos (by simpa using h2)]
      go_enter Try.func9, Try.ntmps9
      go_wp2_with (go_at_call 12; refine (edge_any _ _ s0 s1 h _).mono ?_; rintro e w' ⟨rfl, rfl⟩)
      go_ret
      exact ⟨rfl, rfl⟩
    · have h2' : (n == lh s l / 256) = false := by simpa using h2
      rw [if_neg (by simpa using h2)]
      clear h2
      go_enter Try.func9, Try.ntmps9
      go_wp2_with (go_at_call 12; refine (edge_any _ _ s0 s1 h _).mono ?_; rintro e w' ⟨rfl, rfl⟩)
      go_ret
      exact ⟨rfl, rfl⟩

theorem nodes_any (s l : Int) (s0 : 0 ≤ s) (s1 : s ≤ 18446744073709551615) (h : l ≤ 65537) (w : World) :
    Calls Try.prog 8 #[.int .u64 s, .int .i64 l] w fun e w' => e = .returned (.int .u64 (lh s l)) ∧ w = w' := by
  go_enter Try.func8, Try.ntmps8
  go_wp2
  go_loop [5, 6] (fun c i => ∃ k : Int, 0 ≤ k ∧ (k ≤ l ∨ k = 0) ∧ i = .int .i64 k ∧ c = .int .u64 (lh s k)) (fun _ i => (l - intOf i).toNat)
  case atStart => exact ⟨0, by omega, .inr rfl, rfl, by rw [lh_low s 0 (Int.le_refl _)]⟩
  case round =>
    obtain ⟨k, hk0, hk1, rfl, rfl⟩ := hrel
    have hn := lh_nonneg s k s0
    have hn1 := lh_le s k s0
    by_cases hlt : k < l
    · by_cases hc : 0 < lh s k
      · have hs := lh_succ s k hk0
        have HS : Hid (lh s (k + 1) = lh s k / 256) := hs
        clear hs
        go_wp2
        go_round
        case rel => exact ⟨k + 1, by omega, by omega, rfl, by rw [HS.out]⟩
        case measure => simp [intOf]; omega
      · have hz := lh_zero_of_le s k l hk0 (by omega) (by omega)
        have HZ : Hid (lh s l = lh s k) := by show lh s l = lh s k; omega
        clear hz
        go_wp2
        go_ret
        exact ⟨ret_int HZ.out.symm, rfl⟩
    · have HZ : Hid (lh s l = lh s k) := by
        show lh s l = lh s k
        rcases hk1 with h1 | h1
        · have : k = l := by omega
          rw [this]
        · rw [lh_low s k (by omega), lh_low s l (by omega)]
      clear hk1
      go_wp2
      go_ret
      exact ⟨ret_int HZ.out.symm, rfl⟩

theorem bits_any (s : Int) (s0 : 0 ≤ s) (s1 : s ≤ 18446744073709551615) (w : World) :
    Calls Try.prog 10 #[.int .u64 s] w fun e w' => (∃ b : Nat, b ≤ 64 ∧ e = .returned (.int .i64 b) ∧ hv s b = 0 ∧ ∀ c, c < b → 0 < hv s c) ∧ w = w' := by
  go_enter Try.func10, Try.ntmps10
  go_wp2
  go_loop [0, 3] (fun x t => ∃ b : Nat, b ≤ 64 ∧ x = .int .u64 (hv s b) ∧ t = .int .i64 b ∧ ∀ c, c < b → 0 < hv s c) (fun _ t => 64 - (intOf t).toNat)
  case atStart => exact ⟨0, by omega, by simp [hv], rfl, fun c h => absurd h (by omega)⟩
  case round =>
    obtain ⟨b, hb, rfl, rfl, hall⟩ := hrel
    have HA : Hid (∀ c, c < b → 0 < hv s c) := hall
    clear hall
    have hn := hv_nonneg s b s0
    by_cases hp : 0 < hv s b
    · have h64 := digits_le s b s0 s1 hp
      have HS : Hid (hv s (b + 1) = hv s b / 2) := hv_succ s b
      go_wp2
      go_round
      case rel => exact ⟨b + 1, by omega, by rw [HS.out], by go_num, fun c hc => by
        by_cases e : c = b
        · rw [e]; exact hp
        · exact HA.out c (by omega)⟩
      case measure => simp [intOf]; omega
    · have HZ : Hid (hv s b = 0) := by show hv s b = 0; omega
      go_wp2
      go_ret
      exact ⟨⟨b, hb, rfl, HZ.out, HA.out⟩, rfl⟩

end Go.Proofs.Qxb6605455a
