/-
  A PROOF OF 'Rows.FnAppendEscapedStreamsSaid' ('example.com/crosskey/crosskey/zzlaws_pkg_exposition_b1.FnAppendEscapedStreams'), after the shell written by program off the guide's own print for that function.
  The walk is filled in; the frame is the guide's template at this function's number and types.
-/
import Derived.Test.Qxb6605486aRows
import Derived.Test.Qxb6605486aTop
import Derived.WalkKit
import Derived.ProofKit
import Derived.OpenShut
import Derived.ShutString
import Derived.ChangeOld
import Derived.Below
namespace Go.Proofs.Qxb6605486a.fnAppendEscapedStreams
open Go.ChangeShapes Go.WideShapes Go.ChangeAt Go.RowKit
open Go.ChangeMaps (open_string shut_string)
set_option linter.unusedVariables false

theorem own : ownKnob Try.prog.godebug = none := by kernel_rfl
theorem laidOut : laidOutB Try.prog = true := by kernel_rfl

/-- WHAT THE WALK IS TOLD OF A SLICE OF INTEGERS THAT CAME IN: it is nil; or it leads to a row of 'cap' cells, the numbers 'zs' (the first 'len' are its elements, the rest its spare room), each fitting its kind. -/
def IsRow (k : IntKind) (w : World) (a : Option Addr) (len cap : Nat) (zs : List Int) : Prop :=
  (a = none ∧ len = 0 ∧ cap = 0 ∧ zs = []) ∨
  ∃ x, a = some x ∧ len ≤ cap ∧ cap ≤ maxLen ∧ zs.length = cap ∧ (∀ i, i < zs.length → w.cell? (x.add i) = some (.int k (zs.getD i 0))) ∧ ∀ n ∈ zs, (Lit.int k n).wf = true

/-! ### STEP 1: THE WALK: the Go text returns true, AND WRITES NOTHING THAT WAS THERE: 'Below w.heap.size w w'' (Derived/Below.lean: '.refl', '.alloc', '.drew', '.setCell' at a new block, '.trans'). Open each 'IsRow' by 'rcases' AHEAD of 'go_enter'; part every test ahead of the walk. -/
theorem walk (a0 : Option Addr) (len0 cap0 : Nat) (z0 : List Int) (a1 : ByteArray) (a2 : ByteArray) (a3 : Bool) (w : World) (w0 : IsRow .u8 w a0 len0 cap0 z0) (w1 : a1.size ≤ maxLen) (w2 : a2.size ≤ maxLen) :
    Calls Try.prog 4 #[.slice a0 len0 cap0, .string a1, .string a2, .bool a3] w fun e w' => e = .returned (.bool true) ∧ Below w.heap.size w w' := by
  obtain ⟨xs, rfl, hr⟩ := rd_of_row w0
  have HR : Hid (Rd w a0 xs) := hr
  clear hr w0 w1 w2
  by_cases hfit : 1048576 < xs.length + a1.size + a2.size
  · go_enter Try.func4, Try.ntmps4
    go_wp2_with (go_at_call 11; refine (b11_no _ _ _ _ _ _ _ hfit).mono ?_; rintro e w' ⟨rfl, rfl⟩)
    go_ret
    exact ⟨rfl, Below.refl _ _⟩
  · have hf : xs.length + a1.size + a2.size ≤ 1048576 := by omega
    clear hfit
    go_enter Try.func4, Try.ntmps4
    go_wp2_with (go_at_call 11; refine (b11_yes _ _ _ _ _ _ _ hf).mono ?_; rintro e w' ⟨rfl, rfl⟩)
    refine (clone_sh w.heap.size a0 xs cap0 w (Nat.le_refl _) HR.out (by omega)).mono ?_
    rintro e w1 ⟨ab, cb, rfl, HO1, HR1, HB1⟩
    go_wp2_with fail
    refine (clone_sh w1.heap.size ab xs cb w1 (Nat.le_refl _) HR1.out (by omega)).mono ?_
    rintro e w2 ⟨ac, cc, rfl, HO2, HR2, HB2⟩
    obtain ⟨ys, hys⟩ : ∃ ys, xs ++ esc a3 a1.data.toList = ys := ⟨_, rfl⟩
    have HY : Hid (xs ++ esc a3 a1.data.toList = ys) := hys
    have h1s := esc_len a3 a1.data.toList
    have h1l : a1.data.toList.length = a1.size := rfl
    rw [h1l] at h1s
    have hyl : ys.length = xs.length + (esc a3 a1.data.toList).length := by rw [← hys, List.length_append]
    clear hys h1l
    obtain ⟨hyl1, hyl2⟩ : xs.length + a1.size ≤ ys.length ∧ ys.length ≤ xs.length + 2 * a1.size := by omega
    clear h1s hyl
    go_wp2_with fail
    refine (zzesc_sh w1.heap.size _ xs a1 a3 w2 HO2.out (by omega) ys HY.out).mono ?_
    rintro e w3 ⟨ad, cd, rfl, HO3, HR3, HB3, hc1, hc2, HS⟩
    have HB13 : Hid (Below w1.heap.size w1 w3) := HB2.out.trans HB3.out
    clear HO1 HO2 HR HR2 HB2 HB3 HR3 HS hc1 hc2
    obtain ⟨zs, hzs⟩ : ∃ zs, ys ++ esc a3 a2.data.toList = zs := ⟨_, rfl⟩
    have HZ : Hid (ys ++ esc a3 a2.data.toList = zs) := hzs
    have h1s := esc_len a3 a2.data.toList
    have h1l : a2.data.toList.length = a2.size := rfl
    rw [h1l] at h1s
    have hzl : zs.length = ys.length + (esc a3 a2.data.toList).length := by rw [← hzs, List.length_append]
    clear hzs h1l
    obtain ⟨hzl1, hzl2⟩ : ys.length + a2.size ≤ zs.length ∧ zs.length ≤ ys.length + 2 * a2.size := by omega
    clear h1s hzl
    go_wp2_with fail
    refine (zzesc_sh w1.heap.size _ ys a2 a3 w3 HO3.out (by omega) zs HZ.out).mono ?_
    rintro e w4 ⟨ae, ce, rfl, HO4, HR4, HB4, hc1, hc2, HS⟩
    have HB14 : Hid (Below w1.heap.size w1 w4) := HB13.out.trans HB4.out
    have HRb : Hid (Rd w4 ab xs) := HR1.out.below HB14.out
    clear HO3 HB13 HB4 HS hc1 hc2 HR1
    go_wp2_with fail
    refine (clone_sh w4.heap.size ab xs cb w4 (Nat.le_refl _) HRb.out (by omega)).mono ?_
    rintro e w5 ⟨af, cf, rfl, HO5, HR5, HB5⟩
    go_wp2_with fail
    have HZ3 : Hid (xs ++ esc a3 (a1 ++ a2).data.toList = zs) := by
      show _ = _
      have e : (a1 ++ a2).data.toList = a1.data.toList ++ a2.data.toList := by simp
      rw [e, esc_append, ← List.append_assoc, HY.out, HZ.out]
    have hsz : (a1 ++ a2).size = a1.size + a2.size := by simp
    have HSZ : Hid (xs.length + 2 * (a1 ++ a2).size ≤ 70368744177664) := by show _ ≤ _; omega
    clear hsz
    refine (zzesc_sh w4.heap.size _ xs (a1 ++ a2) a3 w5 HO5.out HSZ.out zs HZ3.out).mono ?_
    rintro e w6 ⟨ag, cg, rfl, HO6, HR6, HB6, hc1, hc2, HS⟩
    have HB46 : Hid (Below w4.heap.size w4 w6) := HB5.out.trans HB6.out
    have HRt : Hid (Rd w6 ae zs) := HR4.out.below HB46.out
    have HBB : Hid (Below w.heap.size w w6) := (HB1.out.trans (HB14.out.mono HB1.out.size)).trans (HB46.out.mono (Nat.le_trans HB1.out.size HB14.out.size))
    have HNO : Hid (∀ j, xs.length ≤ j → j < zs.length → (zs.getD j 0).toNat ≠ 10) := by
      intro j hj1 hj2
      have e := HZ3.out
      have hj3 : j - xs.length < (esc a3 (a1 ++ a2).data.toList).length := by
        have := congrArg List.length e
        rw [List.length_append] at this
        omega
      have e2 : zs.getD j 0 = (esc a3 (a1 ++ a2).data.toList)[j - xs.length] := by
        rw [← e, List.getD_eq_getElem?_getD, List.getElem?_append_right hj1, List.getElem?_eq_getElem hj3]
        rfl
      rw [e2]
      exact esc_noLF _ _ _ (List.getElem_mem hj3)
    clear HO4 HO5 HO6 HR4 HR5 HB5 HB6 HB46 HB1 HB14 HRb HY HZ HZ3 HSZ hc1 hc2 HS
    go_wp2_with fail
    refine (eq_any ae ag ce cg zs w6 (by omega) HRt.out HR6.out).mono ?_
    rintro e w7 ⟨rfl, q, rfl⟩
    clear HR6
    go_wp2
    go_loop [12] (fun i => ∃ k : Nat, xs.length ≤ k ∧ k ≤ zs.length ∧ i = .int .i64 k) (fun i => zs.length - (intOf i).toNat)
    case atStart => exact ⟨xs.length, Nat.le_refl _, by omega, rfl⟩
    case round =>
      obtain ⟨k, hk1, hk2, rfl⟩ := hrel
      by_cases hlt : k < zs.length
      · rcases HRt.out with h | ⟨bt, ot, hat, hct⟩
        · rw [h] at hlt
          simp at hlt
        · have hck := hct k hlt
          have hno := HNO.out k hk1 hlt
          obtain ⟨z, hz⟩ : ∃ z : Nat, z = (zs.getD k 0).toNat := ⟨_, rfl⟩
          rw [← hz] at hck hno
          have hz10 : ((z : Int) == 10) = false := by simp; omega
          have hkl : (k : Int) < (zs.length : Int) := by omega
          clear hct hz hno HNO HRt
          subst hat
          go_wp2
          go_round
          case rel => exact ⟨k + 1, by omega, by omega, by go_num⟩
          case measure => simp [intOf]; omega
      · go_wp2
        go_ret
        exact ⟨rfl, HBB.out.trans ((below_drewN w6 q).mono HBB.out.size)⟩

/-! ### THE ROW's STEP: WRITTEN OUT: LEAVE IT -/
set_option maxRecDepth 100000 in
theorem lifted (os : Os) (started : os.Started) (H : Type) (enc : TypeId × Value → H) :
    ReturnsInHanded {} Try.checked os 4 .any (Rows.fnAppendEscapedStreamsSpec.pre6 enc Try.prog Try.f4 Rows.fnAppendEscapedStreamsRow.domain false) (Rows.fnAppendEscapedStreamsSpec.post enc Try.prog Try.f4 false true false false) := by
  refine returnsInHanded_of_change (C := Try.checked) own started (by kernel_rfl) Try.func4
    (ChangeSpec.witness6 (enc := enc) (C := Try.checked) false ⟨#[], #[.slice none 0 0, .string ByteArray.empty, .string ByteArray.empty, .bool false], []⟩ 8 (by kernel_rfl) (by kernel_rfl) (by kernel_rfl) (by kernel_rfl)) ?_
  intro W base args ds gs before hval0 hW hcnd _
  have hval : ∀ (j : Nat) t v, Try.f4.params[j]? = some t → args[j]? = some v → Value.okWide Try.prog W .any base t v := hval0
  have hW' := hW
  obtain ⟨p, q, hA0, hV, rfl, hfz, hnd⟩ := hW
  have hA : DataW.TrodAll enc Try.prog W 0 (fun _ => true) true Try.f4.params.toList args.toList ds p := hA0
  rw [Try.params4] at hA hval
  obtain ⟨v0, vs0, d0, ds0, p0, q0, hargs, rfl, rfl, h0, r0⟩ := trodAll_cons hA
  obtain ⟨v1, vs1, d1, ds1, p1, q1, rfl, rfl, rfl, h1, r1⟩ := trodAll_cons r0
  obtain ⟨v2, vs2, d2, ds2, p2, q2, rfl, rfl, rfl, h2, r2⟩ := trodAll_cons r1
  obtain ⟨v3, vs3, d3, ds3, p3, q3, rfl, rfl, rfl, h3, r3⟩ := trodAll_cons r2
  obtain ⟨rfl, rfl, rfl⟩ := trodAll_nil r3
  obtain rfl : args = #[v0, v1, v2, v3] := by cases args; simp_all
  obtain ⟨rfl, rfl⟩ := trodVars_none hV
  obtain ⟨a0, len0, cap0, rfl⟩ := okWide_slice Try.underlying22 (hval 0 22 v0 rfl rfl)
  have k0 := h0
  have lt0 : ∀ x ∈ p0, x.block < W.heap.size := by obtain ⟨m, hm⟩ := k0; exact DataW.trod_lt m _ _ _ hm
  obtain ⟨z0, w0⟩ : ∃ zs, IsRow .u8 W a0 len0 cap0 zs := by
    obtain ⟨fuel, hf⟩ := h0
    rcases open_ints Try.underlying22 Try.underlying5 (by kernel_rfl) hf with ⟨hcs, _⟩ | ⟨x, l, c, zs, hcs, _, hl, hm, hz, _, hcell, hwz⟩
    · simp [Value.cells] at hcs
      obtain ⟨rfl, rfl, rfl⟩ := hcs
      exact ⟨[], .inl ⟨rfl, rfl, rfl, rfl⟩⟩
    · simp [Value.cells] at hcs
      obtain ⟨rfl, rfl, rfl⟩ := hcs
      exact ⟨zs, .inr ⟨_, rfl, hl, hm, by simpa using hz, hcell, hwz⟩⟩
  obtain ⟨a1, rfl, rfl, rfl, w1⟩ := open_string Try.underlying9 (hval 1 9 v1 rfl rfl) h1
  obtain ⟨a2, rfl, rfl, rfl, w2⟩ := open_string Try.underlying9 (hval 2 9 v2 rfl rfl) h2
  obtain ⟨a3, rfl, rfl, rfl⟩ := open_bool Try.underlying4 (hval 3 4 v3 rfl rfl) h3
  clear hA0 hval0
  refine (walk a0 len0 cap0 z0 a1 a2 a3 W w0 w1 w2).mono fun e W' ⟨he, bel⟩ => ?_
  subst he
  exact ⟨_, rfl, _, _, _, [], _, [], hW', trodAll_mk1 (shut_bool Try.underlying4 _), (trodAll_cons_mk (Below.trod laidOut (by kernel_rfl) (of_decide_eq_true (by kernel_rfl)) k0 bel lt0) (trodAll_cons_mk (shut_string Try.underlying9 w1) (trodAll_cons_mk (shut_string Try.underlying9 w2) (trodAll_cons_mk (shut_bool Try.underlying4 _) trodAll_mk0)))), rfl, bel.frame _, fun h => by cases h⟩

theorem over : Rows.fnAppendEscapedStreamsRow.holds Try.pinned (OpenSpec.ofChange Rows.fnAppendEscapedStreamsSpec) :=
  OpenClaim.holds_of_wide 4 Try.f4 rfl rfl rfl rfl rfl rfl rfl ⟨rfl, rfl, rfl, rfl, rfl⟩ rfl rfl rfl rfl rfl (by kernel_rfl) Try.func4 (by kernel_rfl)
    (of_decide_eq_true (by kernel_rfl)) (by unfold Func.isWrapper; first | (rw [if_pos (by decide +kernel)]; kernel_rfl) | (rw [if_neg (by decide +kernel)]; exact ⟨rfl, rfl⟩))
    (fun os started H enc _ => lifted os started H enc)

/-- ████ THE STATEMENT ████ -/
theorem proved : Rows.FnAppendEscapedStreamsSaid := over
end Go.Proofs.Qxb6605486a.fnAppendEscapedStreams
