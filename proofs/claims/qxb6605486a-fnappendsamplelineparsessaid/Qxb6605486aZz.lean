/-
  THE WALK of ZZAppendSample (16): it pairs names and values and hands them to appendSample.
-/
import Derived.Test.Qxb6605486aExtra
import Derived.Test.Qxb6605486aStrs
import Derived.WalkSpells
namespace Go.Proofs.Qxb6605486a
open Go.ChangeShapes Go.WideShapes Go.ChangeAt Go.RowKit

theorem grown_of_below {w w1 : World} (h : Below w.heap.size w w1) : w.grownBy w1 none := ⟨h.os, h.tape, h.output, h.size, fun k hk _ => h.block k hk⟩

theorem empty_of {s : ByteArray} (h : s.toList.isEmpty = true) : s = ByteArray.empty := by
  rw [ByteArray.toList_eq, List.isEmpty_iff] at h
  exact bytes_inj h

/-- The labels that are written: the given ones, and the extra one where it has a name. -/
def With (en ev : ByteArray) (ls0 ls : List Lab) : Prop := (en = ByteArray.empty ∧ ls0 = ls) ∨ (en.toList.isEmpty = false ∧ ls0 ++ [(en, ev)] = ls)

/-- appendSample, with or without an extra label. -/
theorem sample_any (v : Value) (xs : List UInt8) (name value en ev : ByteArray) (al0 : Option Addr) (cl0 : Nat) (ls0 ls : List Lab) (n : Nat) (w : World) (hn : ls0.length = n) (hown : w.ownsRow 0 5 1 v xs.length (bs xs))
    (hr : RdL w al0 ls0) (hap : Apart al0 ls0 v.ownBlock) (hcl : n ≤ cl0) (hls : With en ev ls0 ls) (hlen : xs.length + name.size + value.size + 4 * ls.length + 2 * tot ls ≤ 4194296) :
    Calls Try.prog 21 #[v, .string name, .slice al0 n cl0, .agg #[.string en, .string ev], .string value] w fun e w' => ∃ v', e = .returned v' ∧ Upd w w' v.ownBlock v' (xs ++ line name ls value) := by
  subst hn
  rcases hls with ⟨rfl, rfl⟩ | ⟨hen, hls⟩
  · exact sample_plain v xs name value ev al0 cl0 ls0 w hown hr hap hlen
  · exact sample_extra v xs name value en ev al0 cl0 ls0 ls w hown hr hap hcl hen hls hlen

/-- One pair more lies in the row. -/
theorem pair_step {n k : Nat} {cur : List Value} {ls : List Lab} {nm vl : ByteArray} (hl : cur.length = n * 2) (hk : k < n) (hn : ls.length = n) (ht : cur.take (k * 2) = lc (ls.take k)) (he : ls.getD k lab0 = (nm, vl)) :
    ((cur.set (k * 2) (.string nm)).set (k * 2 + 1) (.string vl)).take ((k + 1) * 2) = lc (ls.take (k + 1)) := by
  have hkl : k < ls.length := by omega
  have e1 : ls.take (k + 1) = ls.take k ++ [(nm, vl)] := by
    rw [List.take_succ_eq_append_getElem hkl]
    congr 2
    rw [← he]
    simp [List.getD_eq_getElem?_getD, hkl]
  have e2 : (k + 1) * 2 = k * 2 + 2 := by omega
  rw [e1, lc_append, ← ht, e2]
  have hd : cur.drop (k * 2) = cur[k * 2]'(by omega) :: cur[k * 2 + 1]'(by omega) :: cur.drop (k * 2 + 2) := by
    rw [List.drop_eq_getElem_cons (by omega), List.drop_eq_getElem_cons (i := k * 2 + 1) (by omega)]
  have e3 : cur = cur.take (k * 2) ++ (cur[k * 2]'(by omega) :: cur[k * 2 + 1]'(by omega) :: cur.drop (k * 2 + 2)) := by
    rw [← hd, List.take_append_drop]
  have hlt : (cur.take (k * 2)).length = k * 2 := by rw [List.length_take]; omega
  obtain ⟨A, x, y, R, hA, hcur⟩ : ∃ A x y R, A.length = k * 2 ∧ cur = A ++ (x :: y :: R) := ⟨_, _, _, _, hlt, e3⟩
  rw [hcur, ← hA]
  rw [List.set_append_right _ _ (by omega), List.set_append_right _ _ (by omega)]
  have e4 : A.length + 2 = (A ++ [Value.string nm, Value.string vl]).length := by simp
  have e5 : A ++ ((x :: y :: R).set (A.length - A.length) (Value.string nm)).set (A.length + 1 - A.length) (Value.string vl) = (A ++ [Value.string nm, Value.string vl]) ++ R := by simp
  rw [e5, e4, List.take_left]
  simp [lc]

/-- What is owned by a call goes on being readable where only new blocks came. -/
theorem zz_tail {w w1 : World} {v : Value} {xs : List UInt8} (hown : w.ownsRow 0 5 1 v xs.length (bs xs)) (hb : Below w.heap.size w w1) : Upd w w1 v.ownBlock v xs := (Upd.start hown).grownNone (grown_of_below hb)

theorem zz_nil (v : Value) (xs : List UInt8) (name value en ev : ByteArray) (av : Option Addr) (cn cv m : Nat) (ls : List Lab) (w : World) (hown : w.ownsRow 0 5 1 v xs.length (bs xs))
    (hls : With en ev [] ls) (hlen : xs.length + name.size + value.size + 4 * ls.length + 2 * tot ls ≤ 4194296) :
    Calls Try.prog 16 #[v, .string name, .slice none 0 cn, .slice av m cv, .string en, .string ev, .string value] w fun e w' => ∃ v', e = .returned v' ∧ Upd w w' v.ownBlock v' (xs ++ line name ls value) := by
  have hnil := fun (w : World) (a : Option Addr) (n c : Nat) => run_neq_slice_nil_any (P := Try.prog) w 28 9 a n c 0 0 Try.underlying28
  have HO : Hid (w.ownsRow 0 5 1 v xs.length (bs xs)) := hown
  have HLS : Hid (With en ev [] ls) := hls
  obtain ⟨r0, hr0⟩ : ∃ r0, v.ownBlock = r0 := ⟨_, rfl⟩
  have HR0 : Hid (v.ownBlock = r0) := hr0
  rw [hr0]
  clear hown hls hr0
  go_enter Try.func16, Try.ntmps16
  go_wp2_with fail
  refine (sample_any v xs name value en ev none 0 [] ls 0 w rfl HO.out (.inl rfl) (fun _ _ e _ => by cases e) (Nat.le_refl _) HLS.out hlen).mono ?_
  rintro e w' ⟨v', rfl, hu⟩
  rw [HR0.out] at hu
  have HU : Hid (Upd w w' r0 v' (xs ++ line name ls value)) := hu
  clear hu
  go_wp2
  go_ret
  exact ⟨_, rfl, HU.out⟩

set_option maxHeartbeats 1000000 in
theorem zz_make (v : Value) (xs : List UInt8) (name value en ev : ByteArray) (x : Addr) (av : Option Addr) (cn cv : Nat) (ns vs : List ByteArray) (ls : List Lab) (w : World) (hown : w.ownsRow 0 5 1 v xs.length (bs xs))
    (hn : RdS w (some x) ns) (hv : RdS w av vs) (hlen : ns.length = vs.length) (hls : With en ev (ns.zip vs) ls) (hsz : ns.length ≤ 1048576) (hbig : xs.length + name.size + value.size + 4 * ls.length + 2 * tot ls ≤ 4194296) :
    Calls Try.prog 16 #[v, .string name, .slice (some x) ns.length cn, .slice av ns.length cv, .string en, .string ev, .string value] w fun e w' => ∃ v', e = .returned v' ∧ Upd w w' v.ownBlock v' (xs ++ line name ls value) := by
  obtain ⟨i0, hi, hz0, hz1, hz2⟩ := info_parts Try.info38
  obtain ⟨n, hnn⟩ : ∃ n, ns.length = n := ⟨_, rfl⟩
  obtain ⟨ls0, hls0⟩ : ∃ ls0, ns.zip vs = ls0 := ⟨_, rfl⟩
  obtain ⟨r0, hr0⟩ : ∃ r0, v.ownBlock = r0 := ⟨_, rfl⟩
  rw [hnn] at hsz ⊢
  rw [hls0] at hls
  have HNN : Hid (ns.length = n) := hnn
  have HVN : Hid (vs.length = n) := by show _ = _; omega
  have HN : Hid (RdS w (some x) ns) := hn
  have HV : Hid (RdS w av vs) := hv
  have HZ : Hid (ns.zip vs = ls0) := hls0
  have HZL : Hid (ls0.length = n) := by show _ = _; rw [← hls0, List.length_zip]; omega
  have HLS : Hid (With en ev ls0 ls) := hls
  have HO : Hid (w.ownsRow 0 5 1 v xs.length (bs xs)) := hown
  have HR0 : Hid (v.ownBlock = r0) := hr0
  rw [hr0]
  clear hnn hn hv hls hown hlen hls0 hr0
  have hnil := fun (w : World) (a : Option Addr) (n c : Nat) => run_neq_slice_nil_any (P := Try.prog) w 28 9 a n c 0 0 Try.underlying28
  go_enter Try.func16, Try.ntmps16
  go_wp2_with (at_make; refine wpList_make_full _ rfl _ _ 36 rfl w.heap.size 38 i0 (.agg #[.string ByteArray.empty, .string ByteArray.empty]) 2 Try.underlying36 hi hz0 hz1 .i64 .i64 _ _ n rfl rfl rfl rfl (by rw [hz2]; omega) (by unfold maxLen; omega) (Nat.le_refl _) ?_)
  intro w1 ho1 hg1
  have HB1 : Hid (Below w.heap.size w w1) := (Below.refl _ _).grown hg1 (Nat.le_refl _) (fun k h => by cases h)
  obtain ⟨cur0, hcur0⟩ : ∃ cur, (madeCells #[Value.string ByteArray.empty, Value.string ByteArray.empty] (n * 2)).toList = cur := ⟨_, rfl⟩
  have HO1 : Hid (w1.ownsRow w.heap.size 38 2 (.slice (some ⟨w.heap.size, 0, none⟩) n n) n cur0) := by rw [← hcur0]; exact ho1
  clear ho1 hg1 hcur0
  go_wp2
  go_loopw [24] (fun i wr => ∃ (k : Nat) (cur : List Value), k ≤ n ∧ i = .int .i64 k ∧ Hid (wr.ownsRow w.heap.size 38 2 (.slice (some ⟨w.heap.size, 0, none⟩) n n) n cur) ∧ Hid (cur.take (k * 2) = lc (ls0.take k)) ∧ Hid (Below w.heap.size w wr)) (fun i _ => n - (intOf i).toNat)
  case atStart => exact ⟨0, cur0, Nat.zero_le _, rfl, HO1, show _ = _ by simp [lc], HB1⟩
  case round =>
    obtain ⟨k, cur, hk, rfl, HC, HT, HB⟩ := hrel
    clear HO1 HB1
    by_cases hlt : k < n
    · obtain ⟨nm, hnm⟩ : ∃ nm, ns.getD k ByteArray.empty = nm := ⟨_, rfl⟩
      obtain ⟨vl, hvl⟩ : ∃ vl, vs.getD k ByteArray.empty = vl := ⟨_, rfl⟩
      have HNM : Hid (ls0.getD k lab0 = (nm, vl)) := by
        have h1 := HNN.out
        have h2 := HVN.out
        show _ = _
        rw [← HZ.out, ← hnm, ← hvl]
        simp [List.getD_eq_getElem?_getD, h1, h2, hlt]
      obtain ⟨bn, on, hxn, hcn⟩ : ∃ b off, x = ⟨b, off, none⟩ ∧ wr.cell? ⟨b, off + k, none⟩ = some (.string nm) := by
        rcases HN.out.below HB.out with h | ⟨b, off, h, hc⟩
        · have := HNN.out; rw [h] at this; simp at this; omega
        · exact ⟨b, off, Option.some.inj h, by rw [← hnm]; exact hc k (by have := HNN.out; omega)⟩
      obtain ⟨bv, ov, hxv, hcv⟩ : ∃ b off, av = some ⟨b, off, none⟩ ∧ wr.cell? ⟨b, off + k, none⟩ = some (.string vl) := by
        rcases HV.out.below HB.out with h | ⟨b, off, h, hc⟩
        · have := HVN.out; rw [h] at this; simp at this; omega
        · exact ⟨b, off, h, by rw [← hvl]; exact hc k (by have := HVN.out; omega)⟩
      have hl := HC.out.1
      obtain ⟨c1, hc1⟩ : ∃ c1, wr.cell? ⟨w.heap.size, k * 2, none⟩ = some c1 := by
        rw [HC.out.cellAt (k * 2) (by omega)]
        exact ⟨_, List.getElem?_eq_getElem (by omega)⟩
      obtain ⟨c2, hc2⟩ : ∃ c2, wr.cell? ⟨w.heap.size, k * 2 + 1, none⟩ = some c2 := by
        rw [HC.out.cellAt (k * 2 + 1) (by omega)]
        exact ⟨_, List.getElem?_eq_getElem (by omega)⟩
      have hf1 := HC.out.frozenAt (k * 2)
      have hf2 := HC.out.frozenAt (k * 2 + 1)
      have hkl : (k : Int) < (n : Int) := by omega
      have HC2 : Hid ((((wr.setCell ⟨w.heap.size, k * 2, none⟩ (.string nm)).setCell ⟨w.heap.size, k * 2 + 1, none⟩ (.string vl)).drew).ownsRow w.heap.size 38 2 (.slice (some ⟨w.heap.size, 0, none⟩) n n) n ((cur.set (k * 2) (.string nm)).set (k * 2 + 1) (.string vl))) :=
        ((HC.out.stored (k * 2) (.string nm)).1.stored (k * 2 + 1) (.string vl)).1.drew
      have HT2 : Hid (((cur.set (k * 2) (.string nm)).set (k * 2 + 1) (.string vl)).take ((k + 1) * 2) = lc (ls0.take (k + 1))) := pair_step hl hlt HZL.out HT.out HNM.out
      have HB2 : Hid (Below w.heap.size w ((wr.setCell ⟨w.heap.size, k * 2, none⟩ (.string nm)).setCell ⟨w.heap.size, k * 2 + 1, none⟩ (.string vl)).drew) :=
        ((HB.out.setCell (Nat.le_refl _) _).setCell (Nat.le_refl _) _).drew
      clear hnm hvl hl HC HT HB HNM
      subst hxn
      subst hxv
      go_wp2
      go_region
      go_wp2
      go_roundw
      case rel => exact ⟨k + 1, _, by omega, by go_num, HC2, HT2, HB2⟩
      case measure => simp [intOf]; omega
    · have hkn : k = n := by omega
      have HLC : Hid (cur = lc ls0) := by
        have h1 := HT.out
        have h2 := HC.out.1
        have h3 := HZL.out
        rw [List.take_of_length_le (by omega), List.take_of_length_le (by omega)] at h1
        exact h1
      have HRL : Hid (RdL wr (some ⟨w.heap.size, 0, none⟩) ls0) := by
        have h1 := HC.out
        rw [HLC.out] at h1
        obtain ⟨al, cap, hv, hr, _, _⟩ := rdL_of_owns HZL.out h1
        simp only [Value.slice.injEq] at hv
        rw [hv.1]
        exact hr
      have HUP : Hid (Upd w wr r0 v xs) := by
        have := zz_tail HO.out HB.out
        rw [HR0.out] at this
        exact this
      have HAP : Hid (Apart (some ⟨w.heap.size, 0, none⟩) ls0 v.ownBlock) := by
        intro b off hb _ e
        simp only [Option.some.injEq, Addr.mk.injEq, and_true] at hb
        have := (HO.out.lt b e.symm).2
        omega
      clear hkn HC HT HB HLC
      go_wp2_with fail
      refine (sample_any v xs name value en ev (some ⟨w.heap.size, 0, none⟩) n ls0 ls n wr HZL.out HUP.out.1 HRL.out HAP.out (Nat.le_refl _) HLS.out hbig).mono ?_
      rintro e w' ⟨v', rfl, hu⟩
      have HU : Hid (Upd w w' r0 v' (xs ++ line name ls value)) := HUP.out.trans hu
      clear hu
      go_wp2
      go_ret
      exact ⟨_, rfl, HU.out⟩

/-- ZZAppendSample. -/
theorem zz_any (v : Value) (xs : List UInt8) (name value en ev : ByteArray) (an av : Option Addr) (cn cv : Nat) (ns vs : List ByteArray) (ls : List Lab) (w : World) (hown : w.ownsRow 0 5 1 v xs.length (bs xs))
    (hn : RdS w an ns) (hv : RdS w av vs) (hlen : ns.length = vs.length) (hls : With en ev (ns.zip vs) ls) (hsz : ns.length ≤ 1048576) (hbig : xs.length + name.size + value.size + 4 * ls.length + 2 * tot ls ≤ 4194296) :
    Calls Try.prog 16 #[v, .string name, .slice an ns.length cn, .slice av ns.length cv, .string en, .string ev, .string value] w fun e w' => ∃ v', e = .returned v' ∧ Upd w w' v.ownBlock v' (xs ++ line name ls value) := by
  cases an with
  | some x => exact zz_make v xs name value en ev x av cn cv ns vs ls w hown hn hv hlen hls hsz hbig
  | none =>
    have hx : ns = [] := by
      rcases hn with h | ⟨b, off, h, _⟩
      · exact h
      · cases h
    subst hx
    exact zz_nil v xs name value en ev av cn cv _ ls w hown hls hbig

end Go.Proofs.Qxb6605486a
