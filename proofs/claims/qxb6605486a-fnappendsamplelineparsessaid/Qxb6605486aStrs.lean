/-
  STRINGS IN MEMORY: a slice of strings that is read ('RdS'), one that the call owns ('OwnS'); the walks of zzExB1CloneStrings (15) and zzExB1WithOne (17).
-/
import Derived.Test.Qxb6605486aTop
namespace Go.Proofs.Qxb6605486a
open Go.ChangeShapes Go.WideShapes Go.ChangeAt Go.RowKit

theorem Try.info9 : (Try.prog.info? 9).map (fun i => (i.zero, i.size, i.bytes)) = some (some (.string ByteArray.empty), 1, 16) := by kernel_rfl
theorem Try.size9 : (Try.prog.info? 9).map (·.size) = some 1 := by kernel_rfl

/-- Strings as cells. -/
def ss (xs : List ByteArray) : List Value := xs.map Value.string
theorem ss_append (xs ys : List ByteArray) : ss (xs ++ ys) = ss xs ++ ss ys := by simp [ss]
theorem ss_length (xs : List ByteArray) : (ss xs).length = xs.length := by simp [ss]
theorem ss_one (xs : List ByteArray) : ∀ u ∈ ss xs, u.oneCell' = true := by
  intro u hu
  simp only [ss, List.mem_map] at hu
  obtain ⟨b, _, rfl⟩ := hu
  rfl
theorem ss_at (xs : List ByteArray) (j : Nat) (h : j < xs.length) : (ss xs)[j]? = some (.string (xs.getD j ByteArray.empty)) := by
  simp [ss, List.getD_eq_getElem?_getD, h]

def OwnS (w : World) (B : Nat) (v : Value) (xs : List ByteArray) : Prop := w.ownsRow B 9 1 v xs.length (ss xs) ∧ B ≤ w.heap.size

def RdS (w : World) (ao : Option Addr) (xs : List ByteArray) : Prop :=
  xs = [] ∨ ∃ b off, ao = some ⟨b, off, none⟩ ∧ ∀ j, j < xs.length → w.cell? ⟨b, off + j, none⟩ = some (.string (xs.getD j ByteArray.empty))

theorem OwnS.shape {w : World} {B : Nat} {v : Value} {ys : List ByteArray} (h : OwnS w B v ys) : ∃ ao cap, v = .slice ao ys.length cap ∧ RdS w ao ys := by
  rcases h.1.2 with ⟨hv, hn⟩ | ⟨g, cap, cur, hv, hb, hg, hnc, hcm, hcs, htake⟩
  · obtain rfl := List.eq_nil_of_length_eq_zero hn
    exact ⟨none, 0, hv, .inl rfl⟩
  · refine ⟨some ⟨g, 0, none⟩, cap, hv, .inr ⟨g, 0, rfl, fun j hj => ?_⟩⟩
    have := (hv ▸ h.1).cellAt j (by omega)
    rw [Nat.zero_add, this, ss_at ys j hj]

theorem RdS.below {w w' : World} {ao : Option Addr} {xs : List ByteArray} (h : RdS w ao xs) (hb : Below w.heap.size w w') : RdS w' ao xs := by
  rcases h with h | ⟨b, off, ha, hc⟩
  · exact .inl h
  · refine .inr ⟨b, off, ha, fun j hj => ?_⟩
    rw [hb.cell (p := ⟨b, off + j, none⟩) (World.block_lt_of_cell? w _ (hc j hj))]
    exact hc j hj

theorem RdS.drewN {w : World} {ao : Option Addr} {xs : List ByteArray} (h : RdS w ao xs) (n : Nat) : RdS (w.drewN n) ao xs := h

theorem RdS.cells {w : World} {ao : Option Addr} {xs : List ByteArray} (h : RdS w ao xs) : 0 < (ss xs).length → ∃ ad, ao = some ad ∧ ∀ j v, (ss xs)[j]? = some v → w.cell? (ad.add j) = some v := by
  intro hp
  rcases h with rfl | ⟨b, off, ha, hc⟩
  · simp [ss] at hp
  · refine ⟨_, ha, fun j v hv => ?_⟩
    have hj : j < xs.length := by simpa [ss] using (List.getElem?_eq_some_iff.1 hv).1
    rw [ss_at xs j hj] at hv
    rw [Addr.add_lit, hc j hj]
    exact hv

theorem cloneS_nil (n c : Nat) (w : World) :
    Calls Try.prog 15 #[.slice none n c] w fun e w' => e = .returned (.slice none 0 0) ∧ w = w' := by
  have hnil := fun (w : World) (a : Option Addr) (n c : Nat) => Lib.run_eql_slice_nil (P := Try.prog) w 28 9 a n c 0 0 Try.underlying28
  go_enter Try.func15, Try.ntmps15
  go_wp2
  go_ret
  exact ⟨rfl, rfl⟩

set_option maxHeartbeats 400000 in
theorem cloneS_some (B : Nat) (x : Addr) (xs : List ByteArray) (cap : Nat) (w : World) (hB : B ≤ w.heap.size) (hr : RdS w (some x) xs) (hlen : xs.length ≤ 1048576) :
    Calls Try.prog 15 #[.slice (some x) xs.length cap] w fun e w' => ∃ v', e = .returned v' ∧ OwnS w' B v' xs ∧ Below B w w' := by
  have hnil := fun (w : World) (a : Option Addr) (n c : Nat) => Lib.run_eql_slice_nil (P := Try.prog) w 28 9 a n c 0 0 Try.underlying28
  obtain ⟨i0, hi, hz0, hz1, hz2⟩ := info_parts Try.info9
  have HR : Hid (RdS w (some x) xs) := hr
  clear hr
  go_enter Try.func15, Try.ntmps15
  go_wp2_with (at_make; refine wpList_make_full _ rfl _ _ 28 rfl B 9 i0 (.string ByteArray.empty) 1 Try.underlying28 hi hz0 hz1 .i64 .i64 _ _ xs.length rfl rfl rfl rfl (by rw [hz2]; omega) (by unfold maxLen; omega) hB ?_)
  intro w1 ho1 hg1
  obtain ⟨cur, hcur⟩ : ∃ cur, cur = (madeCells #[Value.string ByteArray.empty] xs.length).toList := ⟨_, rfl⟩
  rw [← hcur] at ho1
  have HO1 : Hid (w1.ownsRow B 9 1 (Value.slice (some { block := w.heap.size, off := 0 }) xs.length xs.length) xs.length cur) := ho1
  have HB1 : Hid (Below w.heap.size w w1) := (Below.refl _ _).grown hg1 (Nat.le_refl _) (fun k h => by cases h)
  clear ho1 hg1 hcur
  go_wp2_with (refine copy_row _ rfl _ _ 28 9 rfl Try.underlying28 Try.size9 B w.heap.size xs.length xs.length (some x) cap cur (ss xs) rfl rfl HO1.out (ss_length xs) (Nat.le_refl _) (HR.out.below HB1.out).cells (ss_one xs) ?_)
  intro w2 ho2 hb2
  have HO2 : Hid (w2.ownsRow B 9 1 (Value.slice (some { block := w.heap.size, off := 0 }) xs.length xs.length) xs.length (ss xs ++ cur.drop xs.length)) := ho2
  have HB2 : Hid (Below B w1 w2) := hb2
  clear ho2 hb2
  go_wp2
  go_ret
  refine ⟨_, rfl, ⟨?_, ?_⟩, (HB1.out.mono hB).trans HB2.out⟩
  · have h := HO2.out
    have e : cur.drop xs.length = [] := List.drop_eq_nil_of_le (by have := HO1.out.1; omega)
    rw [e, List.append_nil] at h
    exact h
  · exact Nat.le_trans hB (Nat.le_trans HB1.out.size HB2.out.size)

/-- CloneStrings, with the shape of what comes back. -/
theorem cloneS_sh (B : Nat) (ao : Option Addr) (xs : List ByteArray) (cap : Nat) (w : World) (hB : B ≤ w.heap.size) (hr : RdS w ao xs) (hlen : xs.length ≤ 1048576) :
    Calls Try.prog 15 #[.slice ao xs.length cap] w fun e w' => ∃ ao' cap', e = .returned (.slice ao' xs.length cap') ∧ Hid (RdS w' ao' xs) ∧ Hid (Below B w w') := by
  cases ao with
  | none =>
    have hx : xs = [] := by
      rcases hr with h | ⟨b, off, h, _⟩
      · exact h
      · cases h
    subst hx
    refine (cloneS_nil _ cap w).mono ?_
    rintro e w' ⟨rfl, rfl⟩
    exact ⟨none, 0, rfl, .inl rfl, Below.refl _ _⟩
  | some x =>
    refine (cloneS_some B x xs cap w hB hr hlen).mono ?_
    rintro e w' ⟨v', rfl, ho, hb⟩
    obtain ⟨ao', cap', rfl, hr'⟩ := ho.shape
    exact ⟨ao', cap', rfl, hr', hb⟩

set_option maxHeartbeats 400000 in
/-- WithOne: a new slice that holds xs and then x. -/
theorem withOne_any (B : Nat) (ao : Option Addr) (xs : List ByteArray) (x : ByteArray) (cap : Nat) (w : World) (hB : B ≤ w.heap.size) (hr : RdS w ao xs) (hlen : xs.length ≤ 1048576) (m : Nat) (hm : xs.length + 1 = m) :
    Calls Try.prog 17 #[.slice ao xs.length cap, .string x] w fun e w' => ∃ ao' cap', e = .returned (.slice ao' m cap') ∧ Hid (RdS w' ao' (xs ++ [x])) ∧ Hid (Below B w w') := by
  obtain ⟨i0, hi, hz0, hz1, hz2⟩ := info_parts Try.info9
  have HR : Hid (RdS w ao xs) := hr
  have HM : Hid (xs.length + 1 = m) := hm
  clear hr
  have hm1 : ((xs.length : Int) + 1) = (m : Int) := by omega
  have hlm : xs.length < m := by omega
  have hm2 : m ≤ 1048577 := by omega
  clear hm
  go_enter Try.func17, Try.ntmps17
  go_wp2_with (at_make; refine wpList_make_full _ rfl _ _ 28 rfl B 9 i0 (.string ByteArray.empty) 1 Try.underlying28 hi hz0 hz1 .i64 .i64 _ _ m rfl rfl (by first | rfl | exact hm1) (by first | rfl | exact hm1) (by rw [hz2]; omega) (by unfold maxLen; omega) hB ?_)
  intro w1 ho1 hg1
  obtain ⟨cur, hcur⟩ : ∃ cur, cur = (madeCells #[Value.string ByteArray.empty] m).toList := ⟨_, rfl⟩
  rw [← hcur] at ho1
  have HO1 : Hid (w1.ownsRow B 9 1 (Value.slice (some { block := w.heap.size, off := 0 }) m m) m cur) := ho1
  have HB1 : Hid (Below w.heap.size w w1) := (Below.refl _ _).grown hg1 (Nat.le_refl _) (fun k h => by cases h)
  clear ho1 hg1 hcur
  go_wp2_with (refine copy_row _ rfl _ _ 28 9 rfl Try.underlying28 Try.size9 B w.heap.size m xs.length ao cap cur (ss xs) rfl rfl HO1.out (ss_length xs) (by omega) (HR.out.below HB1.out).cells (ss_one xs) ?_)
  intro w2 ho2 hb2
  have HO2 : Hid (w2.ownsRow B 9 1 (Value.slice (some { block := w.heap.size, off := 0 }) m m) m (ss xs ++ cur.drop xs.length)) := ho2
  have HB2 : Hid (Below B w1 w2) := hb2
  have hcl : cur.length = m := by have := HO1.out.1; omega
  have hcell : ∃ u, w2.cell? ⟨w.heap.size, xs.length, none⟩ = some u := by
    rw [ho2.cellAt xs.length (by omega)]
    rw [List.getElem?_append_right (by rw [ss_length]; exact Nat.le_refl _), ss_length, Nat.sub_self, List.getElem?_drop]
    exact ⟨_, List.getElem?_eq_getElem (by omega)⟩
  obtain ⟨u, hu⟩ := hcell
  have hfz := ho2.frozenAt xs.length
  have hset := ho2.stored xs.length (.string x)
  have HO3 : Hid ((w2.setCell ⟨w.heap.size, xs.length, none⟩ (.string x)).ownsRow B 9 1 (Value.slice (some { block := w.heap.size, off := 0 }) m m) m (ss (xs ++ [x]))) := by
    have e : (ss xs ++ cur.drop xs.length).set xs.length (.string x) = ss (xs ++ [x]) := by
      have e2 : cur.drop xs.length = [cur[xs.length]'(by omega)] := by
        rw [List.drop_eq_getElem_cons (by omega), List.drop_eq_nil_of_le (by have := HM.out; omega)]
      rw [e2, ss_append, List.set_append_right _ _ (by rw [ss_length]; exact Nat.le_refl _), ss_length, Nat.sub_self]
      rfl
    have h := hset.1
    rw [e] at h
    exact h
  have HB3 : Hid (Below B w2 (w2.setCell ⟨w.heap.size, xs.length, none⟩ (.string x))) := (Below.refl _ _).setCell hB _
  clear ho2 hb2 hset hcl
  have hxm : (xs.length : Int) < (m : Int) := by omega
  clear hm1
  go_wp2
  go_ret
  have hlen2 : (xs ++ [x]).length = m := by rw [List.length_append]; exact HM.out
  refine ⟨some ⟨w.heap.size, 0, none⟩, m, rfl, ?_, ((HB1.out.mono hB).trans HB2.out).trans HB3.out⟩
  have ho : OwnS (w2.setCell ⟨w.heap.size, xs.length, none⟩ (.string x)) B (Value.slice (some { block := w.heap.size, off := 0 }) m m) (xs ++ [x]) :=
    ⟨by rw [hlen2]; exact HO3.out, Nat.le_trans hB (Nat.le_trans HB1.out.size (Nat.le_trans HB2.out.size HB3.out.size))⟩
  obtain ⟨ao', cap', hv, hr'⟩ := ho.shape
  simp only [Value.slice.injEq] at hv
  obtain ⟨h1, _, _⟩ := hv
  rw [h1]
  exact hr'

end Go.Proofs.Qxb6605486a
