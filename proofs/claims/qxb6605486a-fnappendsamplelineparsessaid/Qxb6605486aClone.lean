/-
  THE WALK of zzExB1CloneBytes (function 7), and 'copy' into a row that the call has just made.
-/
import Derived.Test.Qxb6605486aEsc
import Derived.Lib.SliceRun
namespace Go.Proofs.Qxb6605486a
open Go.ChangeShapes Go.WideShapes Go.ChangeAt Go.RowKit

/-- copy(y, x), y a whole row of the call's own, of at least as many cells as x has: x's cells lie at its head. -/
theorem copy_row (w : World) {ops : Array Oper} {rest : List Oper} {o : Oper} {a : Act} {Q : Exit → Act → World → Prop} (hgd : o.guard = none) (d s : Operand) (T E : TypeId)
    (ho : o.op = .call { callee := .builtin .copy, args := #[d, s], argTypes := #[T, T] }) (hu : Try.prog.underlying T = some (.slice E)) (hsz : (Try.prog.info? E).map (·.size) = some 1)
    (B g n m : Nat) (sp : Option Addr) (sCap : Nat) (cur cs : List Value) (hd : a.eval d = .slice (some ⟨g, 0, none⟩) n n) (hs : a.eval s = .slice sp m sCap)
    (hown : w.ownsRow B E 1 (.slice (some ⟨g, 0, none⟩) n n) n cur) (hcm : cs.length = m) (hmn : m ≤ n)
    (hsrc : 0 < cs.length → ∃ ad, sp = some ad ∧ ∀ j v, cs[j]? = some v → w.cell? (ad.add j) = some v) (h1 : ∀ v ∈ cs, v.oneCell' = true)
    (h : ∀ w', w'.ownsRow B E 1 (.slice (some ⟨g, 0, none⟩) n n) n (cs ++ cur.drop m) → Below B w w' → wpList Try.prog ops Q rest (a.put o.dst (goInt m)) w') : wpList Try.prog ops Q (o :: rest) a w := by
  obtain ⟨hl, hh⟩ := hown
  rcases hh with ⟨h', _⟩ | ⟨g', cap', cur', h', hbg, hg, hnc, hcm', hcs, htake⟩
  · simp at h'
  · simp only [Value.slice.injEq, Option.some.injEq, Addr.mk.injEq, and_true, true_and] at h'
    obtain ⟨rfl, rfl⟩ := h'
    have hcl : cur'.toList.length = n := by simpa using hcs
    have hcur : cur'.toList = cur := by
      rw [← htake, List.take_of_length_le (by omega)]
    refine wpList_copy_splice hgd d s T T ho E hu hsz (some ⟨g, 0, none⟩) sp n n m sCap hd hs g 0 cur E (by rw [← hcur]; simpa using hg) cs (by rw [hcm]; exact (Nat.min_eq_left hmn).symm)
      (fun hp => ⟨rfl, hsrc hp⟩) (by rw [hcm, ← hcur, hcl]; omega) h1 B w (Below.refl _ _) hbg ?_
    intro w' hg' hb'
    have e : splice cur 0 cs = cs ++ cur.drop m := by simp [splice, hcm]
    have hg2 := hg'.out
    rw [e] at hg2
    rw [hcm]
    have hlen : (cs ++ cur.drop m).length = n := by rw [List.length_append, List.length_drop, hcm, ← hcur, hcl]; omega
    refine h w' ⟨by rw [hlen]; omega, .inr ⟨g, n, (cs ++ cur.drop m).toArray, rfl, hbg, hg2, Nat.le_refl _, hcm', by simp only [List.size_toArray]; omega, ?_⟩⟩ hb'
    simp only []
    exact List.take_of_length_le (by omega)

/-- What is read lies where the address says. -/
theorem Rd.cells {w : World} {ao : Option Addr} {xs : List UInt8} (h : Rd w ao xs) : 0 < (bs xs).length → ∃ ad, ao = some ad ∧ ∀ j v, (bs xs)[j]? = some v → w.cell? (ad.add j) = some v := by
  intro hp
  rcases h with rfl | ⟨b, off, ha, hc⟩
  · simp [bs] at hp
  · refine ⟨_, ha, fun j v hv => ?_⟩
    have hj : j < xs.length := by simpa [bs] using (List.getElem?_eq_some_iff.1 hv).1
    rw [bs_at xs j hj] at hv
    rw [Addr.add_lit, hc j hj]
    exact hv

theorem clone_nil (n c : Nat) (w : World) :
    Calls Try.prog 7 #[.slice none n c] w fun e w' => e = .returned (.slice none 0 0) ∧ w = w' := by
  have hnil := fun (w : World) (a : Option Addr) (n c : Nat) => Lib.run_eql_slice_nil (P := Try.prog) w 22 5 a n c 0 0 Try.underlying22
  go_enter Try.func7, Try.ntmps7
  go_wp2
  go_ret
  exact ⟨rfl, rfl⟩

theorem Try.size5 : (Try.prog.info? 5).map (·.size) = some 1 := by kernel_rfl

set_option maxHeartbeats 400000 in
theorem clone_some (B : Nat) (x : Addr) (xs : List UInt8) (cap : Nat) (w : World) (hB : B ≤ w.heap.size) (hr : Rd w (some x) xs) (hlen : xs.length ≤ 1048576) :
    Calls Try.prog 7 #[.slice (some x) xs.length cap] w fun e w' => ∃ v', e = .returned v' ∧ Own w' B v' xs ∧ Below B w w' := by
  have hnil := fun (w : World) (a : Option Addr) (n c : Nat) => Lib.run_eql_slice_nil (P := Try.prog) w 22 5 a n c 0 0 Try.underlying22
  obtain ⟨i0, hi, hz0, hz1, hz2⟩ := info_parts Try.info5
  have HR : Hid (Rd w (some x) xs) := hr
  clear hr
  go_enter Try.func7, Try.ntmps7
  go_wp2_with (at_make; refine wpList_make_full _ rfl _ _ 22 rfl B 5 i0 (.int .u8 0) 1 Try.underlying22 hi hz0 hz1 .i64 .i64 _ _ xs.length rfl rfl rfl rfl (by rw [hz2]; omega) (by unfold maxLen; omega) hB ?_)
  intro w1 ho1 hg1
  obtain ⟨cur, hcur⟩ : ∃ cur, cur = (madeCells #[Value.int IntKind.u8 0] xs.length).toList := ⟨_, rfl⟩
  rw [← hcur] at ho1
  have HO1 : Hid (w1.ownsRow B 5 1 (Value.slice (some { block := w.heap.size, off := 0 }) xs.length xs.length) xs.length cur) := ho1
  have HB1 : Hid (Below w.heap.size w w1) := (Below.refl _ _).grown hg1 (Nat.le_refl _) (fun k h => by cases h)
  clear ho1 hg1 hcur
  go_wp2_with (refine copy_row _ rfl _ _ 22 5 rfl Try.underlying22 Try.size5 B w.heap.size xs.length xs.length (some x) cap cur (bs xs) rfl rfl HO1.out (bs_length xs) (Nat.le_refl _) (HR.out.below HB1.out).cells (bs_one xs) ?_)
  intro w2 ho2 hb2
  have HO2 : Hid (w2.ownsRow B 5 1 (Value.slice (some { block := w.heap.size, off := 0 }) xs.length xs.length) xs.length (bs xs ++ cur.drop xs.length)) := ho2
  have HB2 : Hid (Below B w1 w2) := hb2
  clear ho2 hb2
  go_wp2
  go_ret
  refine ⟨_, rfl, ⟨?_, ?_⟩, (HB1.out.mono hB).trans HB2.out⟩
  · have h := HO2.out
    have e : cur.drop xs.length = [] := List.drop_eq_nil_of_le (by have := HO1.out.1; omega)
    rw [e, List.append_nil] at h
    exact h
  · exact Nat.le_trans hB (Nat.le_trans HB1.out.size HB2.out.size)

theorem clone_any (B : Nat) (ao : Option Addr) (xs : List UInt8) (cap : Nat) (w : World) (hB : B ≤ w.heap.size) (hr : Rd w ao xs) (hlen : xs.length ≤ 1048576) :
    Calls Try.prog 7 #[.slice ao xs.length cap] w fun e w' => ∃ v', e = .returned v' ∧ Own w' B v' xs ∧ Below B w w' := by
  cases ao with
  | none =>
    have hx : xs = [] := by
      rcases hr with h | ⟨b, off, h, _⟩
      · exact h
      · cases h
    subst hx
    refine (clone_nil _ cap w).mono ?_
    rintro e w' ⟨rfl, rfl⟩
    exact ⟨_, rfl, Own.nil hB, Below.refl _ _⟩
  | some x => exact clone_some B x xs cap w hB hr hlen

end Go.Proofs.Qxb6605486a
