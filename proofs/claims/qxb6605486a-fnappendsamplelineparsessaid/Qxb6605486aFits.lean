/-
  THE WALKS of the two bounds on a sample's size: zzBytes_FnAppendSampleLineParses (13), zzExB1SampleFits (14).
-/
import Derived.Test.Qxb6605486aStrs
namespace Go.Proofs.Qxb6605486a
open Go.ChangeShapes Go.WideShapes Go.ChangeAt Go.RowKit

/-- The bytes of a list of strings. -/
def sumS (l : List ByteArray) : Nat := (l.map ByteArray.size).sum

theorem sumS_step (l : List ByteArray) (k : Nat) (h : k < l.length) : sumS (l.take (k + 1)) = sumS (l.take k) + (l.getD k ByteArray.empty).size := by
  rw [List.take_succ_eq_append_getElem h, List.getD_eq_getElem?_getD, List.getElem?_eq_getElem h]
  simp only [sumS, List.map_append, List.sum_append, List.map_cons, List.map_nil, List.sum_cons, List.sum_nil, Option.getD_some, Nat.add_zero]

/-- It answers a bool; where that is yes, p. -/
def Ans (p : Prop) (e : Ending) : Prop := ∃ r : Bool, e = .returned (.bool r) ∧ (r = true → p)
theorem Ans.no {p : Prop} : Ans p (.returned (.bool false)) := ⟨false, rfl, fun h => by cases h⟩
theorem Ans.yes {p : Prop} (h : p) : Ans p (.returned (.bool true)) := ⟨true, rfl, fun _ => h⟩

set_option maxHeartbeats 4000000 in
theorem fits13 (a0 an av : Option Addr) (n0 c0 cn cv : Nat) (name en ev value : ByteArray) (ns vs : List ByteArray) (w : World) (hn : RdS w an ns) (hv : RdS w av vs) :
    Calls Try.prog 13 #[.slice a0 n0 c0, .string name, .slice an ns.length cn, .slice av vs.length cv, .string en, .string ev, .string value] w fun e w' =>
      Ans (n0 + name.size + ns.length + sumS ns + vs.length + sumS vs + en.size + ev.size + value.size ≤ 1048576) e ∧ w = w' := by
  have HN : Hid (RdS w an ns) := hn
  have HV : Hid (RdS w av vs) := hv
  clear hn hv
  go_enter Try.func13, Try.ntmps13
  go_wp2
  all_goals (first | (go_ret; exact ⟨Ans.no, rfl⟩) | skip)
  have h1 : (n0 : Int) + (name.size : Int) + (ns.length : Int) ≤ 1048576 := by assumption
  go_loop [15, 16] (fun z i => ∃ k t : Nat, k ≤ ns.length ∧ i = .int .i64 k ∧ z = .int .i64 t ∧ Hid (t = n0 + name.size + ns.length + sumS (ns.take k)) ∧ t ≤ 1048576) (fun _ i => ns.length - (intOf i).toNat)
  case atStart => exact ⟨0, n0 + name.size + ns.length, Nat.zero_le _, rfl, by go_num, show _ = _ by simp [sumS], by omega⟩
  case round =>
    obtain ⟨k, t, hk, rfl, rfl, HT, ht⟩ := hrel
    by_cases hlt : k < ns.length
    · obtain ⟨s, hs⟩ : ∃ s, ns.getD k ByteArray.empty = s := ⟨_, rfl⟩
      obtain ⟨b, off, han, hcell⟩ : ∃ b off, an = some ⟨b, off, none⟩ ∧ w.cell? ⟨b, off + k, none⟩ = some (.string s) := by
        rcases HN.out with h | ⟨b, off, h, hc⟩
        · rw [h] at hlt; simp at hlt
        · exact ⟨b, off, h, by rw [← hs]; exact hc k hlt⟩
      have HS : Hid (n0 + name.size + ns.length + sumS (ns.take (k + 1)) = t + s.size) := by
        have := HT.out
        show _ = _
        rw [sumS_step ns k hlt, hs]
        omega
      clear hs HT HN HV
      subst han
      have hkl : (k : Int) < (ns.length : Int) := by omega
      go_wp2
      all_goals (first | (go_ret; exact ⟨Ans.no, rfl⟩) | skip)
      go_round
      case rel => exact ⟨k + 1, t + s.size, by omega, by go_num, by go_num, HS.out.symm, by omega⟩
      case measure => simp [intOf]; omega
    · have hkn : k = ns.length := by omega
      have HT2 : Hid (t = n0 + name.size + ns.length + sumS ns) := by
        have := HT.out
        rw [hkn, List.take_length] at this
        exact this
      clear hkn HT HN
      go_wp2
      all_goals (first | (go_ret; exact ⟨Ans.no, rfl⟩) | skip)
      have h2 : (t : Int) + (vs.length : Int) ≤ 1048576 := by assumption
      go_loop [15, 17] (fun z i => ∃ k u : Nat, k ≤ vs.length ∧ i = .int .i64 k ∧ z = .int .i64 u ∧ Hid (u = t + vs.length + sumS (vs.take k)) ∧ u ≤ 1048576) (fun _ i => vs.length - (intOf i).toNat)
      case atStart => exact ⟨0, t + vs.length, Nat.zero_le _, rfl, by go_num, show _ = _ by simp [sumS], by omega⟩
      case round =>
        obtain ⟨j, u, hj, rfl, rfl, HU, hu⟩ := hrel
        by_cases hjt : j < vs.length
        · obtain ⟨s, hs⟩ : ∃ s, vs.getD j ByteArray.empty = s := ⟨_, rfl⟩
          obtain ⟨b, off, hav, hcell⟩ : ∃ b off, av = some ⟨b, off, none⟩ ∧ w.cell? ⟨b, off + j, none⟩ = some (.string s) := by
            rcases HV.out with h | ⟨b, off, h, hc⟩
            · rw [h] at hjt; simp at hjt
            · exact ⟨b, off, h, by rw [← hs]; exact hc j hjt⟩
          have HS : Hid (t + vs.length + sumS (vs.take (j + 1)) = u + s.size) := by
            have := HU.out
            show _ = _
            rw [sumS_step vs j hjt, hs]
            omega
          clear hs HU HV
          subst hav
          have hjl : (j : Int) < (vs.length : Int) := by omega
          go_wp2
          all_goals (first | (go_ret; exact ⟨Ans.no, rfl⟩) | skip)
          go_round
          case rel => exact ⟨j + 1, u + s.size, by omega, by go_num, by go_num, HS.out.symm, by omega⟩
          case measure => simp [intOf]; omega
        · have hjn : j = vs.length := by omega
          have HU2 : Hid (u = t + vs.length + sumS vs) := by
            have := HU.out
            rw [hjn, List.take_length] at this
            exact this
          clear hjn HU HV
          go_wp2
          all_goals (first | (go_ret; exact ⟨Ans.no, rfl⟩) | skip)
          go_ret
          have h3 : (u : Int) + (en.size : Int) + (ev.size : Int) + (value.size : Int) ≤ 1048576 := by assumption
          refine ⟨Ans.yes ?_, rfl⟩
          have e1 := HU2.out
          have e2 := HT2.out
          omega

theorem sumS_at (l : List ByteArray) (k : Nat) (h : k < l.length) : (l.getD k ByteArray.empty).size ≤ sumS l := by
  have h1 := sumS_step l k h
  have h2 : sumS l = sumS (l.take (k + 1)) + sumS (l.drop (k + 1)) := by
    refine (congrArg sumS (List.take_append_drop (k + 1) l).symm).trans ?_
    simp only [sumS, List.map_append, List.sum_append]
  omega

set_option maxHeartbeats 4000000 in
theorem fits14 (a0 an av : Option Addr) (n0 c0 cn cv : Nat) (name en ev value : ByteArray) (ns vs : List ByteArray) (w : World) (hn : RdS w an ns) (hv : RdS w av vs)
    (hT : n0 + name.size + ns.length + sumS ns + vs.length + sumS vs + en.size + ev.size + value.size ≤ 1048576) :
    Calls Try.prog 14 #[.slice a0 n0 c0, .string name, .slice an ns.length cn, .slice av vs.length cv, .string en, .string ev, .string value] w fun e w' => Ans True e ∧ w = w' := by
  have HN : Hid (RdS w an ns) := hn
  have HV : Hid (RdS w av vs) := hv
  clear hn hv
  by_cases hn16 : 65536 < ns.length
  · go_enter Try.func14, Try.ntmps14
    go_wp2
    go_ret
    exact ⟨Ans.no, rfl⟩
  · by_cases hv16 : 65536 < vs.length
    · go_enter Try.func14, Try.ntmps14
      go_wp2
      go_ret
      exact ⟨Ans.no, rfl⟩
    · go_enter Try.func14, Try.ntmps14
      go_wp2
      all_goals (first | (go_ret; exact ⟨Ans.no, rfl⟩) | skip)
      have h1 : (n0 : Int) + (name.size : Int) + (en.size : Int) + (ev.size : Int) + (value.size : Int) + 16 * (ns.length : Int) + 16 * (vs.length : Int) ≤ 1048576 := by assumption
      go_loop [15, 16] (fun z i => ∃ k t : Nat, k ≤ ns.length ∧ i = .int .i64 k ∧ z = .int .i64 t ∧ t ≤ 1048576) (fun _ i => ns.length - (intOf i).toNat)
      case atStart => exact ⟨0, n0 + name.size + en.size + ev.size + value.size + 16 * ns.length + 16 * vs.length, Nat.zero_le _, rfl, by go_num, by omega⟩
      case round =>
        obtain ⟨k, t, hk, rfl, rfl, ht⟩ := hrel
        by_cases hlt : k < ns.length
        · obtain ⟨s, hs⟩ : ∃ s, ns.getD k ByteArray.empty = s := ⟨_, rfl⟩
          obtain ⟨b, off, han, hcell⟩ : ∃ b off, an = some ⟨b, off, none⟩ ∧ w.cell? ⟨b, off + k, none⟩ = some (.string s) := by
            rcases HN.out with h | ⟨b, off, h, hc⟩
            · rw [h] at hlt; simp at hlt
            · exact ⟨b, off, h, by rw [← hs]; exact hc k hlt⟩
          have hss : s.size ≤ 1048576 := by
            have := sumS_at ns k hlt
            rw [hs] at this
            omega
          clear hs HN HV
          subst han
          have hkl : (k : Int) < (ns.length : Int) := by omega
          go_wp2
          all_goals (first | (go_ret; exact ⟨Ans.no, rfl⟩) | skip)
          go_round
          case rel => exact ⟨k + 1, t + s.size, by omega, by go_num, by go_num, by omega⟩
          case measure => simp [intOf]; omega
        · clear HN
          go_wp2
          go_loop [15, 17] (fun z i => ∃ k t : Nat, k ≤ vs.length ∧ i = .int .i64 k ∧ z = .int .i64 t ∧ t ≤ 1048576) (fun _ i => vs.length - (intOf i).toNat)
          case atStart => exact ⟨0, t, Nat.zero_le _, rfl, rfl, by omega⟩
          case round =>
            obtain ⟨j, u, hj, rfl, rfl, hu⟩ := hrel
            by_cases hjt : j < vs.length
            · obtain ⟨s, hs⟩ : ∃ s, vs.getD j ByteArray.empty = s := ⟨_, rfl⟩
              obtain ⟨b, off, hav, hcell⟩ : ∃ b off, av = some ⟨b, off, none⟩ ∧ w.cell? ⟨b, off + j, none⟩ = some (.string s) := by
                rcases HV.out with h | ⟨b, off, h, hc⟩
                · rw [h] at hjt; simp at hjt
                · exact ⟨b, off, h, by rw [← hs]; exact hc j hjt⟩
              have hss : s.size ≤ 1048576 := by
                have := sumS_at vs j hjt
                rw [hs] at this
                omega
              clear hs HV
              subst hav
              have hjl : (j : Int) < (vs.length : Int) := by omega
              go_wp2
              all_goals (first | (go_ret; exact ⟨Ans.no, rfl⟩) | skip)
              go_round
              case rel => exact ⟨j + 1, u + s.size, by omega, by go_num, by go_num, by omega⟩
              case measure => simp [intOf]; omega
            · clear HV
              go_wp2
              go_ret
              exact ⟨Ans.yes trivial, rfl⟩

end Go.Proofs.Qxb6605486a
