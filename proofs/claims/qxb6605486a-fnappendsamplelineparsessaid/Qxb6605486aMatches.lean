/-
  THE WALK of zzExB1SampleLineMatches (18) at 'xs ++ line name ls value': it says yes. Its two ways (no label, labels) and its round's two ways (the first label, a later one) are written out by program.
-/
import Derived.Test.Qxb6605486aPlace
import Derived.Test.Qxb6605486aStrs
namespace Go.Proofs.Qxb6605486a
open Go.ChangeShapes Go.WideShapes Go.ChangeAt Go.RowKit

set_option maxHeartbeats 4000000 in
theorem match_none (ao bo an av : Option Addr) (co cb cn cv : Nat) (xs os : List UInt8) (name value : ByteArray) (ls : List Lab) (w : World) (hos : xs ++ line name ls value = os) (hlen : os.length ≤ 4194304) (hr : Rd w ao os) (hb : Rd w bo xs) (h0 : ls.length = 0) :
    Calls Try.prog 18 #[.slice ao os.length co, .slice bo xs.length cb, .string name, .slice an 0 cn, .slice av 0 cv, .string value] w fun e w' => e = .returned (.bool true) ∧ ∃ q, w' = w.drewN q := by
  have HOS : Hid (xs ++ line name ls value = os) := hos
  have HR : Hid (Rd w ao os) := hr
  have HB : Hid (Rd w bo xs) := hb
  obtain ⟨t, ht⟩ : ∃ t, xs.length + name.size = t := ⟨_, rfl⟩
  have HM : Hid (xs.length + name.size = t) := ht
  have HTT : Hid (xs.length + name.size + (labs ls).length = t) := by show _ = _; rw [tail_none h0]; exact ht
  have HAN : Hid (At os xs.length name.data.toList) := at_name hos
  clear hos hr hb ht h0
  go_enter Try.func18, Try.ntmps18
  go_wp2_with fail
  refine (prefix_sh ao bo co cb xs _ os w HOS.out hlen HR.out HB.out).mono ?_
  rintro e w1 ⟨rfl, q1, rfl⟩
  go_wp2_with fail
  refine (lit_any ao co os.length xs.length t os name _ rfl (by omega) (HR.out.drewN _) HAN.out HM.out).mono ?_
  rintro e w2 ⟨rfl, q2, rfl⟩
  simp only [World.drewN_drewN]
  obtain ⟨a1, a2, a3, a4⟩ := at_tail HOS.out t HTT.out
  obtain ⟨t1, ht1⟩ : ∃ t1, t + 1 = t1 := ⟨_, rfl⟩
  obtain ⟨t2, ht2⟩ : ∃ t2, t1 + value.size = t2 := ⟨_, rfl⟩
  obtain ⟨t3, ht3⟩ : ∃ t3, t2 + 1 = t3 := ⟨_, rfl⟩
  rw [ht1] at a2
  rw [ht1, ht2] at a3
  rw [ht1, ht2, ht3] at a4
  have HA1 : Hid (At os t [32]) := a1
  have HA2 : Hid (At os t1 value.data.toList) := a2
  have HA3 : Hid (At os t2 [10]) := a3
  have HT1 : Hid (t + 1 = t1) := ht1
  have HT2 : Hid (t1 + value.size = t2) := ht2
  have HT3 : Hid (t2 + 1 = t3) := ht3
  have hend : ((t3 : Int) == (os.length : Int)) = true := by simp [a4]
  clear a1 a2 a3 a4 ht1 ht2 ht3
  go_wp2_with fail
  refine (byte_any ao co os.length t t1 os 32 32 _ rfl (by omega) (HR.out.drewN _) HA1.out rfl HT1.out).mono ?_
  rintro e w5 ⟨rfl, rfl⟩
  go_wp2_with fail
  refine (lit_any ao co os.length t1 t2 os value _ rfl (by omega) (HR.out.drewN _) HA2.out HT2.out).mono ?_
  rintro e w6 ⟨rfl, q6, rfl⟩
  go_wp2_with fail
  refine (byte_any ao co os.length t2 t3 os 10 10 _ rfl (by omega) (HR.out.drewN _) HA3.out rfl HT3.out).mono ?_
  rintro e w7 ⟨rfl, rfl⟩
  go_wp2
  go_ret
  exact ⟨rfl, _, rfl⟩

set_option maxRecDepth 100000 in
set_option maxHeartbeats 4000000 in
theorem match_some (ao bo an av : Option Addr) (co cb cn cv n : Nat) (xs os : List UInt8) (name value : ByteArray) (ls : List Lab) (ns vs : List ByteArray) (w : World) (hos : xs ++ line name ls value = os) (hlen : os.length ≤ 4194304) (hr : Rd w ao os) (hb : Rd w bo xs)
    (hn : RdS w an ns) (hv : RdS w av vs) (hz : ns.zip vs = ls) (hnl : ns.length = n) (hvl : vs.length = n) (hpos : 0 < n) (hnb : n ≤ 2097152) (htot : tot ls ≤ 1048576) :
    Calls Try.prog 18 #[.slice ao os.length co, .slice bo xs.length cb, .string name, .slice an n cn, .slice av n cv, .string value] w fun e w' => e = .returned (.bool true) ∧ ∃ q, w' = w.drewN q := by
  obtain ⟨bn, on, rfl, hcn⟩ : ∃ b off, an = some ⟨b, off, none⟩ ∧ ∀ j, j < ns.length → w.cell? ⟨b, off + j, none⟩ = some (.string (ns.getD j ByteArray.empty)) := by
    rcases hn with h | h
    · rw [h] at hnl; simp at hnl; omega
    · exact h
  obtain ⟨bv, ov, rfl, hcv⟩ : ∃ b off, av = some ⟨b, off, none⟩ ∧ ∀ j, j < vs.length → w.cell? ⟨b, off + j, none⟩ = some (.string (vs.getD j ByteArray.empty)) := by
    rcases hv with h | h
    · rw [h] at hvl; simp at hvl; omega
    · exact h
  have hll : ls.length = n := by rw [← hz, List.length_zip]; omega
  have HLL : Hid (ls.length = n) := hll
  have HCN : Hid (∀ j, j < n → w.cell? ⟨bn, on + j, none⟩ = some (.string (ns.getD j ByteArray.empty))) := fun j hj => hcn j (by omega)
  have HCV : Hid (∀ j, j < n → w.cell? ⟨bv, ov + j, none⟩ = some (.string (vs.getD j ByteArray.empty))) := fun j hj => hcv j (by omega)
  have HZ : Hid (∀ k, k < n → ls.getD k lab0 = (ns.getD k ByteArray.empty, vs.getD k ByteArray.empty)) := by
    intro k hk
    rw [← hz]
    simp [List.getD_eq_getElem?_getD, hnl, hvl, hk]
  have HOS : Hid (xs ++ line name ls value = os) := hos
  have HR : Hid (Rd w ao os) := hr
  have HB : Hid (Rd w bo xs) := hb
  obtain ⟨m, hm⟩ : ∃ m, xs.length + name.size = m := ⟨_, rfl⟩
  obtain ⟨m1, hm1⟩ : ∃ m1, m + 1 = m1 := ⟨_, rfl⟩
  have HM : Hid (xs.length + name.size = m) := hm
  have HM1 : Hid (m + 1 = m1) := hm1
  have HP0 : Hid (m1 = place xs name ls 0) := by show _ = _; simp [place, mid]; omega
  have HAN : Hid (At os xs.length name.data.toList) := at_name hos
  have HAO : Hid (At os m [123]) := by rw [← hm]; exact at_open hos (by omega)
  have hposI : (0 : Int) < (n : Int) := by omega
  clear hos hr hb hm hm1 hn hv hz hnl hvl hcn hcv hll
  go_enter Try.func18, Try.ntmps18
  go_wp2_with fail
  refine (prefix_sh ao bo co cb xs _ os w HOS.out hlen HR.out HB.out).mono ?_
  rintro e w1 ⟨rfl, q1, rfl⟩
  go_wp2_with fail
  refine (lit_any ao co os.length xs.length m os name _ rfl (by omega) (HR.out.drewN _) HAN.out HM.out).mono ?_
  rintro e w2 ⟨rfl, q2, rfl⟩
  simp only [World.drewN_drewN]
  go_wp2_with fail
  refine (byte_any ao co os.length m m1 os 123 123 _ rfl (by omega) (HR.out.drewN _) HAO.out rfl HM1.out).mono ?_
  rintro e w3 ⟨rfl, rfl⟩
  clear HAN HAO HM HM1 HB
  go_wp2
  go_loopw [13, 14, 15] (fun x y z wr => ∃ (k i q : Nat), k ≤ n ∧ Hid (i = place xs name ls k) ∧ x = .int .i64 i ∧ y = .bool true ∧ z = .int .i64 k ∧ wr = w.drewN q) (fun _ _ z _ => n - (intOf z).toNat)
  case atStart => exact ⟨0, m1, _, Nat.zero_le _, HP0, rfl, rfl, rfl, rfl⟩
  case round =>
    obtain ⟨k, i, q, hk, HI, rfl, rfl, rfl, rfl⟩ := hrel
    clear HP0
    by_cases hlt : k < n
    · obtain ⟨nm, hnm⟩ : ∃ nm, ns.getD k ByteArray.empty = nm := ⟨_, rfl⟩
      obtain ⟨vl, hvl⟩ : ∃ vl, vs.getD k ByteArray.empty = vl := ⟨_, rfl⟩
      have hcn : w.cell? ⟨bn, on + k, none⟩ = some (.string nm) := by rw [← hnm]; exact HCN.out k hlt
      have hcv : w.cell? ⟨bv, ov + k, none⟩ = some (.string vl) := by rw [← hvl]; exact HCV.out k hlt
      have HLK : Hid (ls.getD k lab0 = (nm, vl)) := by show _ = _; rw [HZ.out k hlt, hnm, hvl]
      have HAL : Hid (At os i (sep k ++ (nm.data.toList ++ ([61, 34] ++ (esc true vl.data.toList ++ [34]))))) := by
        have h := at_label HOS.out k (by rw [HLL.out]; exact hlt)
        rw [HLK.out, ent, ← HI.out] at h
        exact h
      have hvs : vl.size ≤ 1048576 := by
        have h := tot_at ls k (by rw [HLL.out]; exact hlt)
        rw [HLK.out] at h
        simp only [] at h
        omega
      have hkl : (k : Int) < (n : Int) := by omega
      clear hnm hvl HCN HCV HZ HOS HLL
      by_cases hk0 : k = 0
      · have hk0' : ¬ (0 : Int) < (k : Int) := by omega
        obtain ⟨i1, hi1⟩ : ∃ i1, i = i1 := ⟨_, rfl⟩
        have HI1 : Hid (i + (sep k).length = i1) := by show _ = _; rw [← hi1]; simp [sep, hk0]
        subst hi1
        clear hk0
        go_wp2_with fail
        obtain ⟨i2, hi2⟩ : ∃ i2, i + nm.size = i2 := ⟨_, rfl⟩
        obtain ⟨i3, hi3⟩ : ∃ i3, i2 + 1 = i3 := ⟨_, rfl⟩
        obtain ⟨i4, hi4⟩ : ∃ i4, i3 + 1 = i4 := ⟨_, rfl⟩
        obtain ⟨i5, hi5⟩ : ∃ i5, i4 + ((esc true vl.data.toList).length + 1) = i5 := ⟨_, rfl⟩
        have HI2 : Hid (i + nm.size = i2) := hi2
        have HI3 : Hid (i2 + 1 = i3) := hi3
        have HI4 : Hid (i3 + 1 = i4) := hi4
        have HI5 : Hid (i4 + ((esc true vl.data.toList).length + 1) = i5) := hi5
        have b1 := HAL.out.right HI1.out
        have HB1 : Hid (At os i nm.data.toList) := b1.left
        have b2 := b1.right (m := i2) (by rw [size_list]; exact hi2)
        have HB2 : Hid (At os i2 [61]) := At.left (b := [34]) b2.left
        have HB3 : Hid (At os i3 [34]) := At.right (a := [61]) b2.left hi3
        have HB4 : Hid (At os i4 (esc true vl.data.toList ++ [34])) := b2.right (m := i4) (by simp; omega)
        have HPL : Hid (i5 = place xs name ls (k + 1)) := by
          have h1 := HI1.out
          show _ = _
          rw [place_succ, HLK.out, ← HI.out, ent]
          simp only [List.length_append, List.length_cons, List.length_nil, size_list]
          omega
        clear hi2 hi3 hi4 hi5 b1 b2 HI1 HI HAL HLK
        refine (lit_any ao co os.length i i2 os nm _ rfl (by omega) (HR.out.drewN _) HB1.out HI2.out).mono ?_
        rintro e w3 ⟨rfl, q3, rfl⟩
        go_wp2_with fail
        refine (byte_any ao co os.length i2 i3 os 61 61 _ rfl (by omega) (HR.out.drewN _) HB2.out rfl HI3.out).mono ?_
        rintro e w4 ⟨rfl, rfl⟩
        go_wp2_with fail
        refine (byte_any ao co os.length i3 i4 os 34 34 _ rfl (by omega) (HR.out.drewN _) HB3.out rfl HI4.out).mono ?_
        rintro e w5 ⟨rfl, rfl⟩
        go_wp2_with fail
        refine (quoted_any ao co os.length i4 i5 os vl _ hvs rfl (by omega) (HR.out.drewN _) HB4.out HI5.out).mono ?_
        rintro e w6 ⟨rfl, rfl⟩
        go_wp2
        go_roundw
        case rel => exact ⟨k + 1, i5, _, by omega, HPL, rfl, rfl, by go_num, rfl⟩
        case measure => simp [intOf]; omega
      · have hk0' : (0 : Int) < (k : Int) := by omega
        obtain ⟨i1, hi1⟩ : ∃ i1, i + 1 = i1 := ⟨_, rfl⟩
        have HI1 : Hid (i + (sep k).length = i1) := by show _ = _; rw [← hi1]; simp [sep, hk0]
        have HS : Hid (At os i [44]) := by
          have := HAL.out.left
          simp only [sep, if_neg hk0] at this
          exact this
        have HI1' : Hid (i + 1 = i1) := hi1
        clear hi1 hk0
        go_wp2_with fail
        refine (byte_any ao co os.length i i1 os 44 44 _ rfl (by omega) (HR.out.drewN _) HS.out rfl HI1'.out).mono ?_
        rintro e w2 ⟨rfl, rfl⟩
        go_wp2_with fail
        obtain ⟨i2, hi2⟩ : ∃ i2, i1 + nm.size = i2 := ⟨_, rfl⟩
        obtain ⟨i3, hi3⟩ : ∃ i3, i2 + 1 = i3 := ⟨_, rfl⟩
        obtain ⟨i4, hi4⟩ : ∃ i4, i3 + 1 = i4 := ⟨_, rfl⟩
        obtain ⟨i5, hi5⟩ : ∃ i5, i4 + ((esc true vl.data.toList).length + 1) = i5 := ⟨_, rfl⟩
        have HI2 : Hid (i1 + nm.size = i2) := hi2
        have HI3 : Hid (i2 + 1 = i3) := hi3
        have HI4 : Hid (i3 + 1 = i4) := hi4
        have HI5 : Hid (i4 + ((esc true vl.data.toList).length + 1) = i5) := hi5
        have b1 := HAL.out.right HI1.out
        have HB1 : Hid (At os i1 nm.data.toList) := b1.left
        have b2 := b1.right (m := i2) (by rw [size_list]; exact hi2)
        have HB2 : Hid (At os i2 [61]) := At.left (b := [34]) b2.left
        have HB3 : Hid (At os i3 [34]) := At.right (a := [61]) b2.left hi3
        have HB4 : Hid (At os i4 (esc true vl.data.toList ++ [34])) := b2.right (m := i4) (by simp; omega)
        have HPL : Hid (i5 = place xs name ls (k + 1)) := by
          have h1 := HI1.out
          show _ = _
          rw [place_succ, HLK.out, ← HI.out, ent]
          simp only [List.length_append, List.length_cons, List.length_nil, size_list]
          omega
        clear hi2 hi3 hi4 hi5 b1 b2 HI1 HI HAL HLK
        refine (lit_any ao co os.length i1 i2 os nm _ rfl (by omega) (HR.out.drewN _) HB1.out HI2.out).mono ?_
        rintro e w3 ⟨rfl, q3, rfl⟩
        go_wp2_with fail
        refine (byte_any ao co os.length i2 i3 os 61 61 _ rfl (by omega) (HR.out.drewN _) HB2.out rfl HI3.out).mono ?_
        rintro e w4 ⟨rfl, rfl⟩
        go_wp2_with fail
        refine (byte_any ao co os.length i3 i4 os 34 34 _ rfl (by omega) (HR.out.drewN _) HB3.out rfl HI4.out).mono ?_
        rintro e w5 ⟨rfl, rfl⟩
        go_wp2_with fail
        refine (quoted_any ao co os.length i4 i5 os vl _ hvs rfl (by omega) (HR.out.drewN _) HB4.out HI5.out).mono ?_
        rintro e w6 ⟨rfl, rfl⟩
        go_wp2
        go_roundw
        case rel => exact ⟨k + 1, i5, _, by omega, HPL, rfl, rfl, by go_num, rfl⟩
        case measure => simp [intOf]; omega
    · have hkn : k = n := by omega
      obtain ⟨t, ht⟩ : ∃ t, i + 1 = t := ⟨_, rfl⟩
      have HT : Hid (i + 1 = t) := ht
      have HAC : Hid (At os i [125]) := by
        have h := at_close HOS.out (by rw [HLL.out]; exact hpos)
        rw [HLL.out, ← hkn, ← HI.out] at h
        exact h
      have HTT : Hid (xs.length + name.size + (labs ls).length = t) := by
        have h := tail_some (xs := xs) (name := name) (ls := ls) (by rw [HLL.out]; exact hpos)
        show _ = _
        rw [h, HLL.out, ← hkn, ← HI.out]
        exact ht
      clear hkn ht HI HCN HCV HZ HLL
      go_wp2_with fail
      refine (byte_any ao co os.length i t os 125 125 _ rfl (by omega) (HR.out.drewN _) HAC.out rfl HT.out).mono ?_
      rintro e w4 ⟨rfl, rfl⟩
      clear HAC HT
      obtain ⟨a1, a2, a3, a4⟩ := at_tail HOS.out t HTT.out
      obtain ⟨t1, ht1⟩ : ∃ t1, t + 1 = t1 := ⟨_, rfl⟩
      obtain ⟨t2, ht2⟩ : ∃ t2, t1 + value.size = t2 := ⟨_, rfl⟩
      obtain ⟨t3, ht3⟩ : ∃ t3, t2 + 1 = t3 := ⟨_, rfl⟩
      rw [ht1] at a2
      rw [ht1, ht2] at a3
      rw [ht1, ht2, ht3] at a4
      have HA1 : Hid (At os t [32]) := a1
      have HA2 : Hid (At os t1 value.data.toList) := a2
      have HA3 : Hid (At os t2 [10]) := a3
      have HT1 : Hid (t + 1 = t1) := ht1
      have HT2 : Hid (t1 + value.size = t2) := ht2
      have HT3 : Hid (t2 + 1 = t3) := ht3
      have hend : ((t3 : Int) == (os.length : Int)) = true := by simp [a4]
      clear a1 a2 a3 a4 ht1 ht2 ht3
      go_wp2_with fail
      refine (byte_any ao co os.length t t1 os 32 32 _ rfl (by omega) (HR.out.drewN _) HA1.out rfl HT1.out).mono ?_
      rintro e w5 ⟨rfl, rfl⟩
      go_wp2_with fail
      refine (lit_any ao co os.length t1 t2 os value _ rfl (by omega) (HR.out.drewN _) HA2.out HT2.out).mono ?_
      rintro e w6 ⟨rfl, q6, rfl⟩
      go_wp2_with fail
      refine (byte_any ao co os.length t2 t3 os 10 10 _ rfl (by omega) (HR.out.drewN _) HA3.out rfl HT3.out).mono ?_
      rintro e w7 ⟨rfl, rfl⟩
      go_wp2
      go_ret
      exact ⟨rfl, _, rfl⟩

end Go.Proofs.Qxb6605486a
