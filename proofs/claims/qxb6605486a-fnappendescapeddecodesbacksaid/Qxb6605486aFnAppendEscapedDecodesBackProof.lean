/-
  A PROOF OF 'Rows.FnAppendEscapedDecodesBackSaid' ('example.com/crosskey/crosskey/zzlaws_pkg_exposition_b1.FnAppendEscapedDecodesBack'), after the shell written by program off the guide's own print for that function.
  The walk is filled in; the frame is the guide's template at this function's number and types.
-/
import Derived.Test.Qxb6605486aRows
import Derived.Test.Qxb6605486aTop
import Derived.WalkKit
import Derived.ProofKit
import Derived.OpenShut
import Derived.ShutString
import Derived.ChangeOld
import Derived.Below
namespace Go.Proofs.Qxb6605486a.fnAppendEscapedDecodesBack
open Go.ChangeShapes Go.WideShapes Go.ChangeAt Go.RowKit
open Go.ChangeMaps (open_string shut_string)
set_option linter.unusedVariables false

theorem own : ownKnob Try.prog.godebug = none := by kernel_rfl
theorem laidOut : laidOutB Try.prog = true := by kernel_rfl

/-- WHAT THE WALK IS TOLD OF A SLICE OF INTEGERS THAT CAME IN: it is nil; or it leads to a row of 'cap' cells, the numbers 'zs' (the first 'len' are its elements, the rest its spare room), each fitting its kind. -/
def IsRow (k : IntKind) (w : World) (a : Option Addr) (len cap : Nat) (zs : List Int) : Prop :=
  (a = none ∧ len = 0 ∧ cap = 0 ∧ zs = []) ∨
  ∃ x, a = some x ∧ len ≤ cap ∧ cap ≤ maxLen ∧ zs.length = cap ∧ (∀ i, i < zs.length → w.cell? (x.add i) = some (.int k (zs.getD i 0))) ∧ ∀ n ∈ zs, (Lit.int k n).wf = true

/-! ### STEP 1: THE WALK: the Go text returns true, AND WRITES NOTHING THAT WAS THERE: 'Below w.heap.size w w'' (Derived/Below.lean: '.refl', '.alloc', '.drew', '.setCell' at a new block, '.trans'). Open each 'IsRow' by 'rcases' AHEAD of 'go_enter'; part every test ahead of the walk. -/
theorem walk (a0 : Option Addr) (len0 cap0 : Nat) (z0 : List Int) (a1 : ByteArray) (a2 : Bool) (w : World) (w0 : IsRow .u8 w a0 len0 cap0 z0) (w1 : a1.size ≤ maxLen) :
    Calls Try.prog 3 #[.slice a0 len0 cap0, .string a1, .bool a2] w fun e w' => e = .returned (.bool true) ∧ Below w.heap.size w w' := by
  obtain ⟨xs, rfl, hr⟩ := rd_of_row w0
  have HR : Hid (Rd w a0 xs) := hr
  clear hr w0 w1
  by_cases hfit : 1048576 < xs.length + a1.size
  · go_enter Try.func3, Try.ntmps3
    go_wp2_with (go_at_call 6; refine (b6_no _ _ _ _ _ _ hfit).mono ?_; rintro e w' ⟨rfl, rfl⟩)
    go_ret
    exact ⟨rfl, Below.refl _ _⟩
  · have hf : xs.length + a1.size ≤ 1048576 := by omega
    clear hfit
    go_enter Try.func3, Try.ntmps3
    go_wp2_with (go_at_call 6; refine (b6_yes _ _ _ _ _ _ hf).mono ?_; rintro e w' ⟨rfl, rfl⟩)
    refine (clone_sh w.heap.size a0 xs cap0 w (Nat.le_refl _) HR.out (by omega)).mono ?_
    rintro e w1 ⟨ab, cb, rfl, HO1, HR1, HB1⟩
    go_wp2_with fail
    refine (clone_sh w1.heap.size ab xs cb w1 (Nat.le_refl _) HR1.out (by omega)).mono ?_
    rintro e w2 ⟨ac, cc, rfl, HO2, HR2, HB2⟩
    obtain ⟨ys, hys⟩ : ∃ ys, xs ++ esc a2 a1.data.toList = ys := ⟨_, rfl⟩
    have HY : Hid (xs ++ esc a2 a1.data.toList = ys) := hys
    clear hys
    go_wp2_with fail
    refine (zzesc_sh w1.heap.size _ xs a1 a2 w2 HO2.out (by omega) ys HY.out).mono ?_
    rintro e w3 ⟨ad, cd, rfl, HO3, HR3, HB3, hc1, hc2, HS⟩
    have HB13 : Hid (Below w1.heap.size w1 w3) := HB2.out.trans HB3.out
    have HRb : Hid (Rd w3 ab xs) := HR1.out.below HB13.out
    clear HO1 HO2 HO3 HR HR2 HR1 HB2 HB3
    have hyl : ys.length ≤ 4194304 := by
      have h1 := esc_len a2 a1.data.toList
      have h2 : a1.data.toList.length = a1.size := rfl
      rw [← HY.out, List.length_append]
      omega
    go_wp2_with fail
    refine (prefix_sh ad ab cd cb xs _ ys w3 HY.out hyl HR3.out HRb.out).mono ?_
    rintro e w4 ⟨rfl, q4, rfl⟩
    have hle : xs.length ≤ ys.length := by rw [← HY.out]; simp
    have hle' : xs.length ≤ cd := by omega
    unfold maxLen at hc2
    have HEL : Hid ((esc a2 a1.data.toList).length = ys.length - xs.length) := by
      show _ = _
      rw [← HY.out, List.length_append]
      omega
    have HT : Hid (Rd w3 (Option.map (fun x => x.add xs.length) ad) (esc a2 a1.data.toList)) := rd_tail HY.out HR3.out HS.out
    have HBB : Hid (Below w.heap.size w w3) := HB1.out.trans (HB13.out.mono HB1.out.size)
    clear HS HB13 HRb HR3 HB1 HY
    go_wp2_with fail
    · have hz : Hid (esc a2 a1.data.toList = []) := List.eq_nil_of_length_eq_zero (by rw [HEL.out]; omega)
      refine (strict_sh ad (ys.length - xs.length) 0 a1 a2 (w3.drewN q4) (by omega) HEL.out (.inl hz.out)).mono ?_
      rintro e w5 ⟨rfl, rfl⟩
      go_wp2
      go_ret
      exact ⟨rfl, HBB.out.trans ((below_drewN w3 q4).mono HBB.out.size)⟩
    · refine (strict_sh _ (ys.length - xs.length) _ a1 a2 (w3.drewN q4) (by omega) HEL.out (HT.out.drewN q4)).mono ?_
      rintro e w5 ⟨rfl, rfl⟩
      go_wp2
      go_ret
      exact ⟨rfl, HBB.out.trans ((below_drewN w3 q4).mono HBB.out.size)⟩

/-! ### THE ROW's STEP: WRITTEN OUT: LEAVE IT -/
set_option maxRecDepth 100000 in
theorem lifted (os : Os) (started : os.Started) (H : Type) (enc : TypeId × Value → H) :
    ReturnsInHanded {} Try.checked os 3 .any (Rows.fnAppendEscapedDecodesBackSpec.pre6 enc Try.prog Try.f3 Rows.fnAppendEscapedDecodesBackRow.domain false) (Rows.fnAppendEscapedDecodesBackSpec.post enc Try.prog Try.f3 false true false false) := by
  refine returnsInHanded_of_change (C := Try.checked) own started (by kernel_rfl) Try.func3
    (ChangeSpec.witness6 (enc := enc) (C := Try.checked) false ⟨#[], #[.slice none 0 0, .string ByteArray.empty, .bool false], []⟩ 8 (by kernel_rfl) (by kernel_rfl) (by kernel_rfl) (by kernel_rfl)) ?_
  intro W base args ds gs before hval0 hW hcnd _
  have hval : ∀ (j : Nat) t v, Try.f3.params[j]? = some t → args[j]? = some v → Value.okWide Try.prog W .any base t v := hval0
  have hW' := hW
  obtain ⟨p, q, hA0, hV, rfl, hfz, hnd⟩ := hW
  have hA : DataW.TrodAll enc Try.prog W 0 (fun _ => true) true Try.f3.params.toList args.toList ds p := hA0
  rw [Try.params3] at hA hval
  obtain ⟨v0, vs0, d0, ds0, p0, q0, hargs, rfl, rfl, h0, r0⟩ := trodAll_cons hA
  obtain ⟨v1, vs1, d1, ds1, p1, q1, rfl, rfl, rfl, h1, r1⟩ := trodAll_cons r0
  obtain ⟨v2, vs2, d2, ds2, p2, q2, rfl, rfl, rfl, h2, r2⟩ := trodAll_cons r1
  obtain ⟨rfl, rfl, rfl⟩ := trodAll_nil r2
  obtain rfl : args = #[v0, v1, v2] := by cases args; simp_all
  obtain ⟨rfl, rfl⟩ := trodVars_none hV
  obtain ⟨a0, len0, cap0, rfl⟩ := okWide_slice Try.underlying22 (hval 0 22 v0 rfl rfl)
  have k0 := h0
  have lt0 : ∀ x ∈ p0, x.block < W.heap.size := by obtain ⟨m, hm⟩ := k0; exact DataW.trod_lt m _ _ _ hm
  obtain ⟨z0, w0⟩ : ∃ zs, IsRow .u8 W a0 len0 cap0 zs := by
    obtain ⟨fuel, hf⟩ := h0
    rcases open_ints Try.underlying22 Try.underlying5 (by kernel_rfl) hf with ⟨hcs, _⟩ | ⟨x, l, c, zs, hcs, _, hl, hm, hz, _, hcell, hwz⟩
    · simp [Value.cells] at hcs
      obtain ⟨rfl, rfl, rfl⟩ := hcs
      exact ⟨[], .inl ⟨rfl, rfl, rfl, rfl⟩⟩
    · simp [Value.cells] at hcs
      obtain ⟨rfl, rfl, rfl⟩ := hcs
      exact ⟨zs, .inr ⟨_, rfl, hl, hm, by simpa using hz, hcell, hwz⟩⟩
  obtain ⟨a1, rfl, rfl, rfl, w1⟩ := open_string Try.underlying9 (hval 1 9 v1 rfl rfl) h1
  obtain ⟨a2, rfl, rfl, rfl⟩ := open_bool Try.underlying4 (hval 2 4 v2 rfl rfl) h2
  clear hA0 hval0
  refine (walk a0 len0 cap0 z0 a1 a2 W w0 w1).mono fun e W' ⟨he, bel⟩ => ?_
  subst he
  exact ⟨_, rfl, _, _, _, [], _, [], hW', trodAll_mk1 (shut_bool Try.underlying4 _), (trodAll_cons_mk (Below.trod laidOut (by kernel_rfl) (of_decide_eq_true (by kernel_rfl)) k0 bel lt0) (trodAll_cons_mk (shut_string Try.underlying9 w1) (trodAll_cons_mk (shut_bool Try.underlying4 _) trodAll_mk0))), rfl, bel.frame _, fun h => by cases h⟩

theorem over : Rows.fnAppendEscapedDecodesBackRow.holds Try.pinned (OpenSpec.ofChange Rows.fnAppendEscapedDecodesBackSpec) :=
  OpenClaim.holds_of_wide 3 Try.f3 rfl rfl rfl rfl rfl rfl rfl ⟨rfl, rfl, rfl, rfl, rfl⟩ rfl rfl rfl rfl rfl (by kernel_rfl) Try.func3 (by kernel_rfl)
    (of_decide_eq_true (by kernel_rfl)) (by unfold Func.isWrapper; first | (rw [if_pos (by decide +kernel)]; kernel_rfl) | (rw [if_neg (by decide +kernel)]; exact ⟨rfl, rfl⟩))
    (fun os started H enc _ => lifted os started H enc)

/-- ████ THE STATEMENT ████ -/
theorem proved : Rows.FnAppendEscapedDecodesBackSaid := over
end Go.Proofs.Qxb6605486a.fnAppendEscapedDecodesBack
