/-
  THE WALK of FnAppendSampleLineParses (5): it returns true.
-/
import Derived.Test.Qxb6605486aFits
import Derived.Test.Qxb6605486aZz
import Derived.Test.Qxb6605486aMatches
namespace Go.Proofs.Qxb6605486a
open Go.ChangeShapes Go.WideShapes Go.ChangeAt Go.RowKit

theorem tot_zip (ns : List ByteArray) : ∀ vs : List ByteArray, ns.length = vs.length → tot (ns.zip vs) = sumS ns + sumS vs := by
  induction ns with
  | nil =>
    intro vs h
    obtain rfl : vs = [] := List.eq_nil_of_length_eq_zero h.symm
    rfl
  | cons a ns ih =>
    intro vs h
    match vs, h with
    | b :: vs, h =>
      have e := ih vs (by simpa using h)
      simp only [tot, sumS, List.zip_cons_cons, List.map_cons, List.sum_cons] at e ⊢
      omega

theorem zip_snoc (ns vs : List ByteArray) (a b : ByteArray) (h : ns.length = vs.length) : (ns ++ [a]).zip (vs ++ [b]) = ns.zip vs ++ [(a, b)] := by
  rw [List.zip_append h]
  rfl

theorem tot_snoc (ls : List Lab) (a b : ByteArray) : tot (ls ++ [(a, b)]) = tot ls + (a.size + b.size) := by
  rw [tot_append]
  simp [tot]

/-- SampleLineMatches, with or without labels. -/
theorem match_any (ao bo an av : Option Addr) (co cb cn cv n : Nat) (xs os : List UInt8) (name value : ByteArray) (ls : List Lab) (ns vs : List ByteArray) (w : World) (hos : xs ++ line name ls value = os) (hlen : os.length ≤ 4194304) (hr : Rd w ao os) (hb : Rd w bo xs)
    (hn : RdS w an ns) (hv : RdS w av vs) (hz : ns.zip vs = ls) (hnl : ns.length = n) (hvl : vs.length = n) (hnb : n ≤ 2097152) (htot : tot ls ≤ 1048576) :
    Calls Try.prog 18 #[.slice ao os.length co, .slice bo xs.length cb, .string name, .slice an n cn, .slice av n cv, .string value] w fun e w' => e = .returned (.bool true) ∧ ∃ q, w' = w.drewN q := by
  by_cases h0 : n = 0
  · have hl : ls.length = 0 := by rw [← hz, List.length_zip]; omega
    subst h0
    exact match_none ao bo an av co cb cn cv xs os name value ls w hos hlen hr hb hl
  · exact match_some ao bo an av co cb cn cv n xs os name value ls ns vs w hos hlen hr hb hn hv hz hnl hvl (by omega) hnb htot

theorem fits13_n (a0 an av : Option Addr) (n0 c0 cn cv nn nv : Nat) (name en ev value : ByteArray) (ns vs : List ByteArray) (w : World) (hn : RdS w an ns) (hv : RdS w av vs) (h1 : ns.length = nn) (h2 : vs.length = nv) :
    Calls Try.prog 13 #[.slice a0 n0 c0, .string name, .slice an nn cn, .slice av nv cv, .string en, .string ev, .string value] w fun e w' =>
      Ans (n0 + name.size + nn + sumS ns + nv + sumS vs + en.size + ev.size + value.size ≤ 1048576) e ∧ w = w' := by
  subst h1; subst h2
  exact fits13 a0 an av n0 c0 cn cv name en ev value ns vs w hn hv

theorem fits14_n (a0 an av : Option Addr) (n0 c0 cn cv nn nv : Nat) (name en ev value : ByteArray) (ns vs : List ByteArray) (w : World) (hn : RdS w an ns) (hv : RdS w av vs) (h1 : ns.length = nn) (h2 : vs.length = nv)
    (hT : n0 + name.size + nn + sumS ns + nv + sumS vs + en.size + ev.size + value.size ≤ 1048576) :
    Calls Try.prog 14 #[.slice a0 n0 c0, .string name, .slice an nn cn, .slice av nv cv, .string en, .string ev, .string value] w fun e w' => Ans True e ∧ w = w' := by
  subst h1; subst h2
  exact fits14 a0 an av n0 c0 cn cv name en ev value ns vs w hn hv hT

theorem cloneS_n (B : Nat) (ao : Option Addr) (xs : List ByteArray) (n cap : Nat) (w : World) (h : xs.length = n) (hB : B ≤ w.heap.size) (hr : RdS w ao xs) (hlen : n ≤ 1048576) :
    Calls Try.prog 15 #[.slice ao n cap] w fun e w' => ∃ ao' cap', e = .returned (.slice ao' n cap') ∧ Hid (RdS w' ao' xs) ∧ Hid (Below B w w') := by
  subst h
  exact cloneS_sh B ao xs cap w hB hr hlen

theorem withOne_n (B : Nat) (ao : Option Addr) (xs : List ByteArray) (x : ByteArray) (n cap m : Nat) (w : World) (h : xs.length = n) (hm : n + 1 = m) (hB : B ≤ w.heap.size) (hr : RdS w ao xs) (hlen : n ≤ 1048576) :
    Calls Try.prog 17 #[.slice ao n cap, .string x] w fun e w' => ∃ ao' cap', e = .returned (.slice ao' m cap') ∧ Hid (RdS w' ao' (xs ++ [x])) ∧ Hid (Below B w w') := by
  subst h
  exact withOne_any B ao xs x cap w hB hr hlen m hm

/-- ZZAppendSample onto a slice of the call's own, with the shape of what comes back. -/
theorem zz_sh (B : Nat) (v : Value) (xs os : List UInt8) (name value en ev : ByteArray) (an av : Option Addr) (n cn cv : Nat) (ns vs : List ByteArray) (ls : List Lab) (w : World) (hown : Own w B v xs)
    (hn : RdS w an ns) (hv : RdS w av vs) (h1 : ns.length = n) (h2 : vs.length = n) (hls : With en ev (ns.zip vs) ls) (hsz : n ≤ 1048576) (hbig : xs.length + name.size + value.size + 4 * ls.length + 2 * tot ls ≤ 4194296) (hos : xs ++ line name ls value = os) :
    Calls Try.prog 16 #[v, .string name, .slice an n cn, .slice av n cv, .string en, .string ev, .string value] w fun e w' => ∃ ao co, e = .returned (.slice ao os.length co) ∧ Hid (Rd w' ao os) ∧ Hid (Below B w w') := by
  subst h1; subst hos
  refine (zz_any v xs name value en ev an av cn cv ns vs ls w (owns_zero hown.1) hn hv h2.symm hls hsz hbig).mono ?_
  rintro e w' ⟨v', rfl, hu⟩
  obtain ⟨ho, hb⟩ := hu.own hown.2 (fun k hk => (hown.1.lt k hk).1)
  obtain ⟨ao, co, rfl, hr, _⟩ := ho.shape
  exact ⟨ao, co, rfl, hr, hb⟩

set_option maxHeartbeats 4000000 in
theorem law_empty (a0 an av : Option Addr) (c0 cn cv n : Nat) (xs : List UInt8) (name ev value : ByteArray) (ns vs : List ByteArray) (w : World) (h0 : Rd w a0 xs) (hn : RdS w an ns) (hv : RdS w av vs) (h1 : ns.length = n) (h2 : vs.length = n) :
    Calls Try.prog 5 #[.slice a0 xs.length c0, .string name, .slice an n cn, .slice av n cv, .string ByteArray.empty, .string ev, .string value] w fun e w' => e = .returned (.bool true) ∧ Below w.heap.size w w' := by
  have HR : Hid (Rd w a0 xs) := h0
  have HN : Hid (RdS w an ns) := hn
  have HV : Hid (RdS w av vs) := hv
  have H1 : Hid (ns.length = n) := h1
  have H2 : Hid (vs.length = n) := h2
  clear h0 hn hv h1 h2
  go_enter Try.func5, Try.ntmps5
  go_wp2_with fail
  refine (fits13_n a0 an av xs.length c0 cn cv n n name ByteArray.empty ev value ns vs w HN.out HV.out H1.out H2.out).mono ?_
  rintro e w' ⟨⟨r, rfl, hT0⟩, rfl⟩
  cases r with
  | false =>
    clear hT0
    go_wp2
    go_ret
    exact ⟨rfl, Below.refl _ _⟩
  | true =>
    have hT := hT0 rfl
    clear hT0
    go_wp2_with fail
    refine (fits14_n a0 an av xs.length c0 cn cv n n name ByteArray.empty ev value ns vs w HN.out HV.out H1.out H2.out hT).mono ?_
    rintro e w' ⟨⟨r, rfl, _⟩, rfl⟩
    cases r with
    | false =>
      go_wp2
      go_ret
      exact ⟨rfl, Below.refl _ _⟩
    | true =>
      have hn20 : n ≤ 1048576 := by omega
      go_wp2_with fail
      refine (clone_sh w.heap.size a0 xs c0 w (Nat.le_refl _) HR.out (by omega)).mono ?_
      rintro e w1 ⟨ab, cb, rfl, HO1, HR1, HB1⟩
      have HN1 : Hid (RdS w1 an ns) := HN.out.below HB1.out
      have HV1 : Hid (RdS w1 av vs) := HV.out.below HB1.out
      clear HO1 HN HV HR
      go_wp2_with fail
      refine (cloneS_n w1.heap.size an ns n cn w1 H1.out (Nat.le_refl _) HN1.out hn20).mono ?_
      rintro e w2 ⟨an2, cn2, rfl, HN2, HB2⟩
      have HV2 : Hid (RdS w2 av vs) := HV1.out.below HB2.out
      clear HN1 HV1
      go_wp2_with fail
      refine (cloneS_n w2.heap.size av vs n cv w2 H2.out (Nat.le_refl _) HV2.out hn20).mono ?_
      rintro e w3 ⟨av3, cv3, rfl, HV3, HB3⟩
      have HN3 : Hid (RdS w3 an2 ns) := HN2.out.below HB3.out
      have HR3 : Hid (Rd w3 ab xs) := (HR1.out.below HB2.out).below HB3.out
      have HBB3 : Hid (Below w.heap.size w w3) := (HB1.out.trans (HB2.out.mono HB1.out.size)).trans (HB3.out.mono (Nat.le_trans HB1.out.size HB2.out.size))
      clear HN2 HV2 HR1 HB1 HB2 HB3
      go_wp2_with fail
      refine (clone_sh w3.heap.size ab xs cb w3 (Nat.le_refl _) HR3.out (by omega)).mono ?_
      rintro e w4 ⟨ac, cc, rfl, HO4, HR4, HB4⟩
      have HN4 : Hid (RdS w4 an2 ns) := HN3.out.below HB4.out
      have HV4 : Hid (RdS w4 av3 vs) := HV3.out.below HB4.out
      have HRB4 : Hid (Rd w4 ab xs) := HR3.out.below HB4.out
      have HBB4 : Hid (Below w.heap.size w w4) := HBB3.out.trans (HB4.out.mono HBB3.out.size)
      clear HR4
      obtain ⟨ls, hls⟩ : ∃ ls, ns.zip vs = ls := ⟨_, rfl⟩
      have HLS : Hid (ns.zip vs = ls) := hls
      have hll : ls.length ≤ n + 1 := by
        rw [← hls]
        have h1 := H1.out
        have h2 := H2.out
        simp only [List.length_zip]
        omega
      have htl : tot ls = sumS ns + sumS vs := by
        rw [← hls, tot_zip ns vs (by rw [H1.out, H2.out])]
      obtain ⟨T, hTT⟩ : ∃ T, tot ls = T := ⟨_, rfl⟩
      have HTT : Hid (tot ls = T) := hTT
      have hT1 : T ≤ 1048576 := by rw [← hTT, htl]; omega
      have hbig : xs.length + name.size + value.size + 4 * ls.length + 2 * T ≤ 4194296 := by
        rw [hTT] at htl
        rw [htl]
        omega
      have HBIG : Hid (xs.length + name.size + value.size + 4 * ls.length + 2 * tot ls ≤ 4194296) := by rw [HTT.out]; exact hbig
      have HWI : Hid (With ByteArray.empty ev (ns.zip vs) ls) := .inl ⟨rfl, hls⟩
      clear hls htl hTT
      obtain ⟨os, hos⟩ : ∃ os, xs ++ line name ls value = os := ⟨_, rfl⟩
      have HOS : Hid (xs ++ line name ls value = os) := hos
      have hol : os.length ≤ 4194304 := by
        have h := line_len name ls value
        have h3 := HBIG.out
        rw [← hos, List.length_append]
        omega
      clear hos
      go_wp2_with fail
      refine (zz_sh w3.heap.size _ xs os name value ByteArray.empty ev an2 av3 n cn2 cv3 ns vs ls w4 HO4.out HN4.out HV4.out H1.out H2.out HWI.out hn20 HBIG.out HOS.out).mono ?_
      rintro e w5 ⟨ao, co, rfl, HRO, HB5⟩
      have HB35 : Hid (Below w3.heap.size w3 w5) := HB4.out.trans HB5.out
      have HN5 : Hid (RdS w5 an2 ns) := HN3.out.below HB35.out
      have HV5 : Hid (RdS w5 av3 vs) := HV3.out.below HB35.out
      have HRB5 : Hid (Rd w5 ab xs) := HR3.out.below HB35.out
      have HBB5 : Hid (Below w.heap.size w w5) := HBB3.out.trans (HB35.out.mono HBB3.out.size)
      clear HO4 HN4 HV4 HRB4 HBB4 HB4 HB5 HN3 HV3 HR3 HWI HBIG hbig HBB3 HB35
      go_wp2_with fail
      refine (match_any ao ab an2 av3 co cb cn2 cv3 n xs os name value ls ns vs w5 HOS.out hol HRO.out HRB5.out HN5.out HV5.out HLS.out H1.out H2.out (by omega) (by rw [HTT.out]; exact hT1)).mono ?_
      rintro e w6 ⟨rfl, q, rfl⟩
      go_wp2
      go_ret
      exact ⟨rfl, HBB5.out.trans ((below_drewN w5 q).mono HBB5.out.size)⟩

set_option maxHeartbeats 4000000 in
theorem law_extra (a0 an av : Option Addr) (c0 cn cv n : Nat) (xs : List UInt8) (name en ev value : ByteArray) (ns vs : List ByteArray) (w : World) (h0 : Rd w a0 xs) (hn : RdS w an ns) (hv : RdS w av vs) (h1 : ns.length = n) (h2 : vs.length = n) (hen : en.toList.isEmpty = false) :
    Calls Try.prog 5 #[.slice a0 xs.length c0, .string name, .slice an n cn, .slice av n cv, .string en, .string ev, .string value] w fun e w' => e = .returned (.bool true) ∧ Below w.heap.size w w' := by
  have HR : Hid (Rd w a0 xs) := h0
  have HN : Hid (RdS w an ns) := hn
  have HV : Hid (RdS w av vs) := hv
  have H1 : Hid (ns.length = n) := h1
  have H2 : Hid (vs.length = n) := h2
  clear h0 hn hv h1 h2
  go_enter Try.func5, Try.ntmps5
  go_wp2_with fail
  refine (fits13_n a0 an av xs.length c0 cn cv n n name en ev value ns vs w HN.out HV.out H1.out H2.out).mono ?_
  rintro e w' ⟨⟨r, rfl, hT0⟩, rfl⟩
  cases r with
  | false =>
    clear hT0
    go_wp2
    go_ret
    exact ⟨rfl, Below.refl _ _⟩
  | true =>
    have hT := hT0 rfl
    clear hT0
    go_wp2_with fail
    refine (fits14_n a0 an av xs.length c0 cn cv n n name en ev value ns vs w HN.out HV.out H1.out H2.out hT).mono ?_
    rintro e w' ⟨⟨r, rfl, _⟩, rfl⟩
    cases r with
    | false =>
      go_wp2
      go_ret
      exact ⟨rfl, Below.refl _ _⟩
    | true =>
      have hn20 : n ≤ 1048576 := by omega
      go_wp2_with fail
      refine (clone_sh w.heap.size a0 xs c0 w (Nat.le_refl _) HR.out (by omega)).mono ?_
      rintro e w1 ⟨ab, cb, rfl, HO1, HR1, HB1⟩
      have HN1 : Hid (RdS w1 an ns) := HN.out.below HB1.out
      have HV1 : Hid (RdS w1 av vs) := HV.out.below HB1.out
      clear HO1 HN HV HR
      go_wp2_with fail
      refine (cloneS_n w1.heap.size an ns n cn w1 H1.out (Nat.le_refl _) HN1.out hn20).mono ?_
      rintro e w2 ⟨an2, cn2, rfl, HN2, HB2⟩
      have HV2 : Hid (RdS w2 av vs) := HV1.out.below HB2.out
      clear HN1 HV1
      go_wp2_with fail
      refine (cloneS_n w2.heap.size av vs n cv w2 H2.out (Nat.le_refl _) HV2.out hn20).mono ?_
      rintro e w3 ⟨av3, cv3, rfl, HV3, HB3⟩
      have HN3 : Hid (RdS w3 an2 ns) := HN2.out.below HB3.out
      have HR3 : Hid (Rd w3 ab xs) := (HR1.out.below HB2.out).below HB3.out
      have HBB3 : Hid (Below w.heap.size w w3) := (HB1.out.trans (HB2.out.mono HB1.out.size)).trans (HB3.out.mono (Nat.le_trans HB1.out.size HB2.out.size))
      clear HN2 HV2 HR1 HB1 HB2 HB3
      go_wp2_with fail
      refine (clone_sh w3.heap.size ab xs cb w3 (Nat.le_refl _) HR3.out (by omega)).mono ?_
      rintro e w4 ⟨ac, cc, rfl, HO4, HR4, HB4⟩
      have HN4 : Hid (RdS w4 an2 ns) := HN3.out.below HB4.out
      have HV4 : Hid (RdS w4 av3 vs) := HV3.out.below HB4.out
      have HRB4 : Hid (Rd w4 ab xs) := HR3.out.below HB4.out
      have HBB4 : Hid (Below w.heap.size w w4) := HBB3.out.trans (HB4.out.mono HBB3.out.size)
      clear HR4
      obtain ⟨ls, hls⟩ : ∃ ls, ns.zip vs ++ [(en, ev)] = ls := ⟨_, rfl⟩
      have HLS : Hid (ns.zip vs ++ [(en, ev)] = ls) := hls
      have hll : ls.length ≤ n + 1 := by
        rw [← hls]
        have h1 := H1.out
        have h2 := H2.out
        simp only [List.length_append, List.length_zip, List.length_cons, List.length_nil]
        omega
      have htl : tot ls = sumS ns + sumS vs + (en.size + ev.size) := by
        rw [← hls, tot_snoc, tot_zip ns vs (by rw [H1.out, H2.out])]
      obtain ⟨T, hTT⟩ : ∃ T, tot ls = T := ⟨_, rfl⟩
      have HTT : Hid (tot ls = T) := hTT
      have hT1 : T ≤ 1048576 := by rw [← hTT, htl]; omega
      have hbig : xs.length + name.size + value.size + 4 * ls.length + 2 * T ≤ 4194296 := by
        rw [hTT] at htl
        rw [htl]
        omega
      have HBIG : Hid (xs.length + name.size + value.size + 4 * ls.length + 2 * tot ls ≤ 4194296) := by rw [HTT.out]; exact hbig
      have HWI : Hid (With en ev (ns.zip vs) ls) := .inr ⟨hen, hls⟩
      clear hls htl hTT
      obtain ⟨os, hos⟩ : ∃ os, xs ++ line name ls value = os := ⟨_, rfl⟩
      have HOS : Hid (xs ++ line name ls value = os) := hos
      have hol : os.length ≤ 4194304 := by
        have h := line_len name ls value
        have h3 := HBIG.out
        rw [← hos, List.length_append]
        omega
      clear hos
      go_wp2_with fail
      refine (zz_sh w3.heap.size _ xs os name value en ev an2 av3 n cn2 cv3 ns vs ls w4 HO4.out HN4.out HV4.out H1.out H2.out HWI.out hn20 HBIG.out HOS.out).mono ?_
      rintro e w5 ⟨ao, co, rfl, HRO, HB5⟩
      have HB35 : Hid (Below w3.heap.size w3 w5) := HB4.out.trans HB5.out
      have HN5 : Hid (RdS w5 an2 ns) := HN3.out.below HB35.out
      have HV5 : Hid (RdS w5 av3 vs) := HV3.out.below HB35.out
      have HRB5 : Hid (Rd w5 ab xs) := HR3.out.below HB35.out
      have HBB5 : Hid (Below w.heap.size w w5) := HBB3.out.trans (HB35.out.mono HBB3.out.size)
      clear HO4 HN4 HV4 HRB4 HBB4 HB4 HB5 HN3 HV3 HR3 HWI HBIG hbig HBB3 HB35
      obtain ⟨m, hm⟩ : ∃ m, n + 1 = m := ⟨_, rfl⟩
      have HM : Hid (n + 1 = m) := hm
      have hm2 : m ≤ 2097152 := by omega
      clear hm
      go_wp2_with fail
      refine (withOne_n w5.heap.size an2 ns en n cn2 m w5 H1.out HM.out (Nat.le_refl _) HN5.out hn20).mono ?_
      rintro e w6 ⟨an6, cn6, rfl, HN6, HB6⟩
      have HV6 : Hid (RdS w6 av3 vs) := HV5.out.below HB6.out
      go_wp2_with fail
      refine (withOne_n w6.heap.size av3 vs ev n cv3 m w6 H2.out HM.out (Nat.le_refl _) HV6.out hn20).mono ?_
      rintro e w7 ⟨av7, cv7, rfl, HV7, HB7⟩
      have HN7 : Hid (RdS w7 an6 (ns ++ [en])) := HN6.out.below HB7.out
      have HB57 : Hid (Below w5.heap.size w5 w7) := HB6.out.trans (HB7.out.mono HB6.out.size)
      have HRO7 : Hid (Rd w7 ao os) := HRO.out.below HB57.out
      have HRB7 : Hid (Rd w7 ab xs) := HRB5.out.below HB57.out
      have HBB7 : Hid (Below w.heap.size w w7) := HBB5.out.trans (HB57.out.mono HBB5.out.size)
      have HZZ : Hid ((ns ++ [en]).zip (vs ++ [ev]) = ls) := by
        show _ = _
        rw [zip_snoc ns vs en ev (by rw [H1.out, H2.out])]
        exact HLS.out
      have HL1 : Hid ((ns ++ [en]).length = m) := by show _ = _; rw [List.length_append, H1.out]; exact HM.out
      have HL2 : Hid ((vs ++ [ev]).length = m) := by show _ = _; rw [List.length_append, H2.out]; exact HM.out
      clear HN5 HV5 HRO HRB5 HN6 HV6 HB6 HB7 HB57 HBB5 HLS H1 H2 HM
      go_wp2_with fail
      refine (match_any ao ab an6 av7 co cb cn6 cv7 m xs os name value ls (ns ++ [en]) (vs ++ [ev]) w7 HOS.out hol HRO7.out HRB7.out HN7.out HV7.out HZZ.out HL1.out HL2.out hm2 (by rw [HTT.out]; exact hT1)).mono ?_
      rintro e w8 ⟨rfl, q, rfl⟩
      go_wp2
      go_ret
      exact ⟨rfl, HBB7.out.trans ((below_drewN w7 q).mono HBB7.out.size)⟩

theorem law_unequal (a0 an av : Option Addr) (c0 cn cv : Nat) (xs : List UInt8) (name en ev value : ByteArray) (ns vs : List ByteArray) (w : World) (hn : RdS w an ns) (hv : RdS w av vs) (hne : ns.length ≠ vs.length) :
    Calls Try.prog 5 #[.slice a0 xs.length c0, .string name, .slice an ns.length cn, .slice av vs.length cv, .string en, .string ev, .string value] w fun e w' => e = .returned (.bool true) ∧ Below w.heap.size w w' := by
  have HN : Hid (RdS w an ns) := hn
  have HV : Hid (RdS w av vs) := hv
  have hne2 : ((ns.length : Int) == (vs.length : Int)) = false := by simp; omega
  clear hn hv
  go_enter Try.func5, Try.ntmps5
  go_wp2_with fail
  refine (fits13 a0 an av xs.length c0 cn cv name en ev value ns vs w HN.out HV.out).mono ?_
  rintro e w' ⟨⟨r, rfl, hT0⟩, rfl⟩
  cases r with
  | false =>
    clear hT0
    go_wp2
    go_ret
    exact ⟨rfl, Below.refl _ _⟩
  | true =>
    have hT := hT0 rfl
    clear hT0
    go_wp2_with fail
    refine (fits14 a0 an av xs.length c0 cn cv name en ev value ns vs w HN.out HV.out hT).mono ?_
    rintro e w' ⟨⟨r, rfl, _⟩, rfl⟩
    cases r with
    | false =>
      go_wp2
      go_ret
      exact ⟨rfl, Below.refl _ _⟩
    | true =>
      go_wp2
      go_ret
      exact ⟨rfl, Below.refl _ _⟩

/-- The law. -/
theorem law_any (a0 an av : Option Addr) (c0 cn cv : Nat) (xs : List UInt8) (name en ev value : ByteArray) (ns vs : List ByteArray) (w : World) (h0 : Rd w a0 xs) (hn : RdS w an ns) (hv : RdS w av vs) :
    Calls Try.prog 5 #[.slice a0 xs.length c0, .string name, .slice an ns.length cn, .slice av vs.length cv, .string en, .string ev, .string value] w fun e w' => e = .returned (.bool true) ∧ Below w.heap.size w w' := by
  by_cases hlen : vs.length = ns.length
  · rw [hlen]
    by_cases hen : en.toList.isEmpty = true
    · obtain rfl := empty_of hen
      exact law_empty a0 an av c0 cn cv ns.length xs name ev value ns vs w h0 hn hv rfl hlen
    · exact law_extra a0 an av c0 cn cv ns.length xs name en ev value ns vs w h0 hn hv rfl hlen (by simpa using hen)
  · exact law_unequal a0 an av c0 cn cv xs name en ev value ns vs w hn hv (fun e => hlen e.symm)

end Go.Proofs.Qxb6605486a
