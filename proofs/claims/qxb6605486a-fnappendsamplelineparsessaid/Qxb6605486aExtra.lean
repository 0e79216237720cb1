/-
  THE WALK of appendSample (21) WITH AN EXTRA LABEL: 'labels = append(labels[:len(labels):len(labels)], extra)' always makes a new row. The loop's round is written out by program, as in Qxb6605486aSample.
-/
import Derived.Test.Qxb6605486aSample
namespace Go.Proofs.Qxb6605486a
open Go.ChangeShapes Go.WideShapes Go.ChangeAt Go.RowKit

theorem Try.info38 : (Try.prog.info? 38).map (fun i => (i.zero, i.size, i.bytes)) = some (some (.agg #[.string ByteArray.empty, .string ByteArray.empty]), 2, 32) := by kernel_rfl

/-- Labels as cells. -/
def lc (ls : List Lab) : List Value := ls.flatMap fun p => [.string p.1, .string p.2]

theorem lc_append (a b : List Lab) : lc (a ++ b) = lc a ++ lc b := by simp [lc]
theorem lc_length (ls : List Lab) : (lc ls).length = ls.length * 2 := by
  induction ls with
  | nil => rfl
  | cons p ls ih =>
    have e : lc (p :: ls) = .string p.1 :: .string p.2 :: lc ls := by simp [lc]
    rw [e]
    simp only [List.length_cons, ih]
    omega
theorem lc_one (ls : List Lab) : ∀ u ∈ lc ls, u.oneCell' = true := by
  intro u hu
  simp only [lc, List.mem_flatMap] at hu
  obtain ⟨p, _, hp⟩ := hu
  simp at hp
  rcases hp with rfl | rfl <;> rfl

/-- Where label j's cells stand. -/
theorem lc_at (ls : List Lab) (j : Nat) (h : j < ls.length) : (lc ls)[j * 2]? = some (.string (ls.getD j lab0).1) ∧ (lc ls)[j * 2 + 1]? = some (.string (ls.getD j lab0).2) := by
  have e : ls = ls.take j ++ (ls[j] :: ls.drop (j + 1)) := by rw [List.getElem_cons_drop, List.take_append_drop]
  have hl : (lc (ls.take j)).length = j * 2 := by rw [lc_length, List.length_take]; omega
  have e2 : lc ls = lc (ls.take j) ++ (.string ls[j].1 :: .string ls[j].2 :: lc (ls.drop (j + 1))) := by
    refine (congrArg lc e).trans ?_
    rw [lc_append]
    rfl
  have e3 : ls.getD j lab0 = ls[j] := by simp [List.getD_eq_getElem?_getD, h]
  rw [e2, e3]
  constructor
  · rw [List.getElem?_append_right (by omega), hl, Nat.sub_self]
    rfl
  · rw [List.getElem?_append_right (by omega), hl, Nat.add_sub_cancel_left]
    rfl

/-- The cells of labels that are read, one by one. -/
theorem RdL.cells {w : World} {al : Option Addr} {ls : List Lab} (h : RdL w al ls) : ∀ b, al = some b → ∀ j u, (lc ls)[j]? = some u → w.cell? (b.add j) = some u := by
  intro b0 hb0 j u hu
  have hj : j < ls.length * 2 := by
    have := (List.getElem?_eq_some_iff.1 hu).1
    rw [lc_length] at this
    exact this
  rcases h with h | ⟨b, off, hal, hc⟩
  · rw [h] at hj
    simp at hj
  · rw [hal] at hb0
    obtain rfl := Option.some.inj hb0
    rw [Addr.add_lit]
    have hq : j / 2 < ls.length := by omega
    have hl := lc_at ls (j / 2) hq
    have hcc := hc (j / 2) hq
    rcases Nat.mod_two_eq_zero_or_one j with h0 | h1
    · have ej : j = j / 2 * 2 := by omega
      rw [ej] at hu ⊢
      rw [hl.1] at hu
      rw [hcc.1]
      exact hu
    · have ej : j = j / 2 * 2 + 1 := by omega
      rw [ej] at hu ⊢
      rw [hl.2] at hu
      rw [← Nat.add_assoc, hcc.2]
      exact hu

/-- A row of labels that is owned can be read. -/
theorem rdL_of_owns {w : World} {B n : Nat} {v : Value} {ls : List Lab} (hn : ls.length = n) (h : w.ownsRow B 38 2 v n (lc ls)) : ∃ al cap, v = .slice al n cap ∧ RdL w al ls ∧ (∀ b off, al = some ⟨b, off, none⟩ → B ≤ b) ∧ n ≤ cap := by
  rcases h.2 with ⟨hv, h0⟩ | ⟨g, cap, cur, hv, hb, hg, hnc, hcm, hcs, htake⟩
  · obtain rfl := List.eq_nil_of_length_eq_zero (hn.trans h0)
    exact ⟨none, 0, by rw [hv, h0], .inl rfl, (fun _ _ e => by cases e), by omega⟩
  · refine ⟨some ⟨g, 0, none⟩, cap, hv, .inr ⟨g, 0, rfl, fun j hj => ?_⟩, fun b off e => ?_, hnc⟩
    · have hl := lc_at ls j hj
      have h' := hv ▸ h
      rw [Nat.zero_add, h'.cellAt (j * 2) (by omega), h'.cellAt (j * 2 + 1) (by omega)]
      exact hl
    · simp only [Option.some.injEq, Addr.mk.injEq, and_true] at e
      omega

/-- 'labels = append(labels[:n:n], extra)' AS ONE STEP OF ITS REGION. -/
theorem step_labels {ops : Array Oper} {o : Oper} {a : Act} {K : Act → World → Prop} {Q : Exit → Act → World → Prop} {E : Prop} (w2 : World) (hg : o.guard = none) (s x : Operand)
    (hop : o.op = Op.call { callee := Callee.builtin Builtin.append, args := #[s, x], argTypes := #[36, 36] }) (al0 : Option Addr) (n : Nat) (ls0 ls : List Lab) (en ev : ByteArray) (hs : a.eval s = .slice al0 n n)
    (hn : ls0.length = n) (hls : ls0 ++ [(en, ev)] = ls) (hr : RdL w2 al0 ls0) (hx : a.eval x = .slice (some ⟨w2.heap.size, 0, none⟩) 1 1) (hb : n ≤ 4194304)
    (hK : ∀ al cap w', RdL w' al ls → (∀ b off, al = some ⟨b, off, none⟩ → w2.heap.size ≤ b) → w2.grownBy w' none → K (a.put o.dst (.slice al ls.length cap)) w') :
    if Region.wanted o (yielded ops a.tmps) = true then Oper.wp Try.prog o a (w2.alloc (.cells #[.string en, .string ev] 38)).drew K Q else E := by
  obtain ⟨i0, hi, hz0, hz1, hz2⟩ := info_parts Try.info38
  refine step_append_grows hg s x 36 hop 38 i0 (.agg #[.string ByteArray.empty, .string ByteArray.empty]) 2 32 Try.underlying36 hi hz0 hz1 hz2 rfl (by decide) al0 n n (lc ls0) hs (fun e => ?_) (by rw [lc_length, hn]) (fun b e j u hu => ?_)
    ⟨w2.heap.size, 0, none⟩ 1 1 (lc [(en, ev)]) hx rfl (fun j u hj => ?_) (lc_one _) (by omega) (by unfold maxLen; omega) (by omega) (fun v' w' h1 h2 => ?_)
  · rcases hr with h | ⟨b, off, h, _⟩
    · rw [h] at hn
      simp at hn
      omega
    · rw [e] at h
      cases h
  · have h := hr.cells b e j u hu
    show (w2.alloc _).cell? _ = _
    rw [World.cell?_alloc_lt _ _ _ (World.block_lt_of_cell? w2 _ h)]
    exact h
  · show (w2.alloc _).cell? _ = _
    match j, hj with
    | 0, hj => simp [lc] at hj; subst hj; simp [Addr.add]
    | 1, hj => simp [lc] at hj; subst hj; simp [Addr.add]
  · have hlen : ls.length = n + 1 := by rw [← hls, List.length_append, hn]; rfl
    rw [← lc_append, hls] at h1
    obtain ⟨al, cap, rfl, hr', hb', _⟩ := rdL_of_owns hlen h1
    rw [← hlen]
    refine hK al cap w' hr' (fun b off e => ?_) ?_
    · have := hb' b off e
      have e2 : (w2.alloc (.cells #[.string en, .string ev] 38)).drew.heap.size = w2.heap.size + 1 := by simp
      omega
    · exact ⟨h2.os, h2.tape, h2.output, Nat.le_trans (by simp) h2.size, fun k hk hne => (h2.block k (by simp; omega) hne).trans (Below.heap_alloc w2 _ k hk)⟩

/-- New blocks turn no slice. -/
theorem Upd.grownNone {w0 w w1 : World} {r0 : Option Nat} {v : Value} {ys : List UInt8} (h : Upd w0 w r0 v ys) (hg : w.grownBy w1 none) : Upd w0 w1 r0 v ys :=
  h.step (h.1.kept hg (by cases v.ownBlock <;> simp)) ⟨hg.os, hg.tape, hg.output, hg.size, fun k hk _ => hg.block k hk (by simp)⟩ (.inl rfl)

set_option maxHeartbeats 4000000 in
theorem sample_extra (v : Value) (xs : List UInt8) (name value en ev : ByteArray) (al0 : Option Addr) (cl0 : Nat) (ls0 ls : List Lab) (w : World) (hown : w.ownsRow 0 5 1 v xs.length (bs xs))
    (hr : RdL w al0 ls0) (hap : Apart al0 ls0 v.ownBlock) (hcl : ls0.length ≤ cl0) (hen : en.toList.isEmpty = false) (hls : ls0 ++ [(en, ev)] = ls) (hlen : xs.length + name.size + value.size + 4 * ls.length + 2 * tot ls ≤ 4194296) :
    Calls Try.prog 21 #[v, .string name, .slice al0 ls0.length cl0, .agg #[.string en, .string ev], .string value] w fun e w' => ∃ v', e = .returned v' ∧ Upd w w' v.ownBlock v' (xs ++ line name ls value) := by
  obtain ⟨r0, hr0⟩ : ∃ r0, r0 = v.ownBlock := ⟨_, rfl⟩
  obtain ⟨W1, hW1⟩ : ∃ W1, W1 = w.alloc (.cells #[.string en, .string ev] 38) := ⟨_, rfl⟩
  have HU0 : Hid (Upd w W1 r0 v xs) := by rw [hr0, hW1]; exact (Upd.start hown).alloc _
  have HU1 : Hid (Upd W1 W1 r0 v xs) := by rw [hr0]; exact (Upd.since HU0.out)
  have HUZ0 : Hid (∀ w' v' ys', Upd W1 w' r0 v' ys' → Upd w w' r0 v' ys') := by
    intro w' v' ys' h
    rw [hr0] at h ⊢
    have h0 := HU0.out
    rw [hr0] at h0
    exact h0.trans h
  have hbr : some w.heap.size ≠ r0 := by
    intro e
    have := (hown.lt w.heap.size (by rw [← hr0]; exact e.symm)).2
    omega
  have HBR : Hid (some w.heap.size ≠ r0) := hbr
  have HL1 : Hid (RdL W1 al0 ls0 ∧ Apart al0 ls0 r0) := by
    have h0 := HU0.out.labels hr (by rw [hr0]; exact hap)
    rw [← hr0] at h0
    exact h0
  have HLS : Hid (ls0 ++ [(en, ev)] = ls) := hls
  have hl0 : ls0.length ≤ 4194304 := by
    have := congrArg List.length hls
    simp only [List.length_append, List.length_singleton] at this
    omega
  rw [← hr0]
  clear hr0 hown hbr hr hap hls
  have HW : Hid (W1 = w.alloc (.cells #[.string en, .string ev] 38)) := hW1
  clear hW1
  go_enter Try.func21, Try.ntmps21
  go_wp2_with (at_builtin; rw [← HW.out]; refine app_strF W1 rfl _ _ rfl W1 r0 v xs rfl name rfl HU1.out (by omega) ?_)
  intro v2 w2 hu2
  have hb1 : w2.cell? ⟨w.heap.size, 0, none⟩ = some (.string en) := hu2.cell (by rw [HW.out]; simp) HBR.out
  have hb2 : w2.cell? ⟨w.heap.size, 1, none⟩ = some (.string ev) := hu2.cell (by rw [HW.out]; simp) HBR.out
  have HL2 : Hid (RdL w2 al0 ls0) := (hu2.labels HL1.out.1 HL1.out.2).1
  have HU2 : Hid (Upd W1 w2 r0 v2 (xs ++ name.data.toList)) := hu2
  clear hu2 HL1
  go_wp2
  go_region_law (refine step_labels w2 rfl (.tmp 24) (.tmp 26) rfl al0 ls0.length ls0 ls en ev (by simp [Act.eval]) rfl HLS.out HL2.out (by simp [Act.eval]) hl0 ?_; intro al cl wB hr3 ha3 hg3)
  have HUb0 : Hid (Upd W1 wB r0 v2 (xs ++ name.data.toList)) := HU2.out.grownNone hg3
  obtain ⟨rb, hrb⟩ : ∃ rb, rb = v2.ownBlock := ⟨_, rfl⟩
  have HUb : Hid (Upd wB wB rb v2 (xs ++ name.data.toList)) := by rw [hrb]; exact HUb0.out.since
  have HUZ : Hid (∀ w' v' ys', Upd wB w' rb v' ys' → Upd w w' r0 v' ys') := by
    intro w' v' ys' h
    rw [hrb] at h
    exact HUZ0.out _ _ _ (HUb0.out.trans h)
  have HLB : Hid (RdL wB al ls) := hr3
  have HNE : Hid (Apart al ls rb) := by
    intro b off hal _ e
    have h1 := ha3 b off hal
    have h2 := (HU2.out.1.lt b (by rw [← hrb]; exact e.symm)).2
    omega
  clear hrb HU0 HU1 HUZ0 HW HBR HL2 HU2 HUb0 hr3 ha3 hg3 hb1 hb2 HLS hcl hen hl0
  go_wp2
  go_loopw [0, 30] (fun v i wr => ∃ (k : Nat) (ys : List UInt8), k ≤ ls.length ∧ i = .int .i64 k ∧ Hid (ys = (xs ++ name.data.toList) ++ written ls k) ∧ Hid (Upd wB wr rb v ys)) (fun _ i _ => ls.length - (intOf i).toNat)
  case atStart => exact ⟨0, _, Nat.zero_le _, rfl, show _ = _ by simp [written], HUb⟩
  case round =>
    obtain ⟨k, ys, hk, rfl, HY, HU⟩ := hrel
    by_cases hlt : k < ls.length
    · have hne : ls ≠ [] := by intro e; rw [e] at hlt; simp at hlt
      obtain ⟨b, off, hal, hc⟩ : ∃ b off, al = some ⟨b, off, none⟩ ∧ ∀ j, j < ls.length → wB.cell? ⟨b, off + j * 2, none⟩ = some (.string (ls.getD j lab0).1) ∧ wB.cell? ⟨b, off + j * 2 + 1, none⟩ = some (.string (ls.getD j lab0).2) := by
        rcases HLB.out with h | h
        · exact absurd h hne
        · exact h
      have hbn := HNE.out b off hal hne
      obtain ⟨p1, hp1⟩ : ∃ p1, p1 = (ls.getD k lab0).1 := ⟨_, rfl⟩
      obtain ⟨p2, hp2⟩ : ∃ p2, p2 = (ls.getD k lab0).2 := ⟨_, rfl⟩
      have hc1 : wr.cell? ⟨b, off + k * 2, none⟩ = some (.string p1) := by rw [hp1]; exact HU.out.cell (hc k hlt).1 hbn
      have hc2 : wr.cell? ⟨b, off + k * 2 + 1, none⟩ = some (.string p2) := by rw [hp2]; exact HU.out.cell (hc k hlt).2 hbn
      have HP1 : Hid (p1 = (ls.getD k lab0).1) := hp1
      have HP2 : Hid (p2 = (ls.getD k lab0).2) := hp2
      clear hp1 hp2 hc hbn HNE HLB hne HUb
      subst hal
      have hkl : (k : Int) < (ls.length : Int) := by omega
      have hyl : ys.length ≤ 4194304 := by
        have h1 := written_len ls k hk
        have h2 := tot_take ls k
        rw [HY.out, List.length_append, List.length_append, size_list]
        omega
      have hp12 : p1.size + p2.size ≤ 4194304 := by
        have := tot_at ls k hlt
        rw [HP1.out, HP2.out]
        omega
      obtain ⟨WL, hWL⟩ : ∃ WL, WL = wr.alloc (.cells #[.string p1, .string p2] 38) := ⟨_, rfl⟩
      obtain ⟨rv, hrv⟩ : ∃ rv, rv = u0.ownBlock := ⟨_, rfl⟩
      have HVL : Hid (some wr.heap.size ≠ rv) := by
        intro e
        have := (HU.out.1.lt wr.heap.size (by rw [← hrv]; exact e.symm)).2
        omega
      have HUL : Hid (Upd WL WL rv u0 ys) := by rw [hrv, hWL]; exact (HU.out.alloc _).since
      have HUW : Hid (∀ w' v' ys', Upd WL w' rv v' ys' → Upd wB w' rb v' ys') := by
        intro w' v' ys' h
        rw [hWL, hrv] at h
        exact (HU.out.alloc _).trans h
      have HWL : Hid (WL = wr.alloc (.cells #[.string p1, .string p2] 38)) := hWL
      have HSZ : Hid (WL.heap.size = wr.heap.size + 1) := by show _ = _; rw [hWL]; simp
      have HN : Hid (∀ c : UInt8, (c = if k = 0 then 123 else 44) → ∀ z : List UInt8, (z = if k + 1 = ls.length then [125] else []) → ys ++ ([c] ++ (p1.data.toList ++ ([61, 34] ++ (esc true p2.data.toList ++ ([34] ++ z))))) = (xs ++ name.data.toList) ++ written ls (k + 1)) := by
        intro c hc z hz
        rw [written_step ls k hlt c hc z hz, HY.out, HP1.out, HP2.out, List.append_assoc]
      clear hWL hrv HU HY HP1 HP2
      by_cases hk0 : k = 0
      · have hk0' : ((k : Int) == 0) = true := by simp [hk0]
        have HC0 : Hid ((123 : UInt8) = if k = 0 then 123 else 44) := by show _ = _; rw [if_pos hk0]
        clear hk0
        by_cases hkn : k + 1 = ls.length
        · have hkn' : ((k : Int) == (ls.length : Int) - 1) = true := by simp; omega
          have HZ : Hid (([125] : List UInt8) = if k + 1 = ls.length then [125] else []) := by show _ = _; rw [if_pos hkn]
          have HF : Hid (ys ++ ([123] ++ (p1.data.toList ++ ([61, 34] ++ (esc true p2.data.toList ++ ([34] ++ [125]))))) = (xs ++ name.data.toList) ++ written ls (k + 1)) := HN.out _ HC0.out _ HZ.out
          clear hkn HN HC0 HZ
          go_wp2_with (at_builtin; rw [← HWL.out]; refine app_oneG WL rfl _ _ rfl WL rv u0 ys rfl 123 _ rfl HSZ.out 123 rfl HUL.out (by omega) ?_)
          intro v1 w1 hu1
          obtain ⟨y1, hy1⟩ : ∃ y1, y1 = ys ++ [123] := ⟨_, rfl⟩
          rw [← hy1] at hu1
          have HU1 : Hid (Upd WL w1 rv v1 y1) := hu1
          have HY1 : Hid (y1 = ys ++ [123]) := hy1
          have hl1 : y1.length ≤ 4194305 := by rw [hy1, List.length_append]; simp; omega
          have hx1 : w1.cell? ⟨wr.heap.size, 0, none⟩ = some (.string p1) := hu1.cell (by rw [HWL.out]; simp) HVL.out
          clear hu1 hy1 HUL
          go_wp2_with (at_builtin; refine app_strF w1 rfl _ _ rfl WL rv v1 y1 rfl p1 rfl HU1.out (by omega) ?_)
          intro v2' w2' hu2
          obtain ⟨y2, hy2⟩ : ∃ y2, y2 = y1 ++ p1.data.toList := ⟨_, rfl⟩
          rw [← hy2] at hu2
          have HUU2 : Hid (Upd WL w2' rv v2' y2) := hu2
          have HY2 : Hid (y2 = y1 ++ p1.data.toList) := hy2
          have hl2 : y2.length ≤ 8388610 := by rw [hy2, List.length_append, size_list]; omega
          clear hu2 hy2 hx1 HU1
          go_wp2_with (at_builtin; refine app_strF w2' rfl _ _ rfl WL rv v2' y2 rfl _ rfl HUU2.out (by show y2.length + 2 ≤ _; omega) ?_)
          intro v3 w3 hu3
          obtain ⟨y3, hy3⟩ : ∃ y3, y3 = y2 ++ [61, 34] := ⟨_, rfl⟩
          have hu3' : Upd WL w3 rv v3 y3 := by rw [hy3]; exact hu3
          have HU3 : Hid (Upd WL w3 rv v3 y3) := hu3'
          have HY3 : Hid (y3 = y2 ++ [61, 34]) := hy3
          have hl3 : y3.length ≤ 8388612 := by rw [hy3, List.length_append]; simp; omega
          have hx3 : w3.cell? ⟨wr.heap.size, 1, none⟩ = some (.string p2) := hu3'.cell (by rw [HWL.out]; simp) HVL.out
          clear hu3 hu3' hy3 HUU2
          go_wp2_with fail
          refine (escF_any v3 y3 p2 true w3 HU3.out.1 (by omega)).mono ?_
          rintro e w4 ⟨v4, rfl, hu4⟩
          obtain ⟨y4, hy4⟩ : ∃ y4, y4 = y3 ++ esc true p2.data.toList := ⟨_, rfl⟩
          rw [← hy4] at hu4
          have HU4 : Hid (Upd WL w4 rv v4 y4) := HU3.out.trans hu4
          have HY4 : Hid (y4 = y3 ++ esc true p2.data.toList) := hy4
          have hl4 : y4.length ≤ 33554432 := by
            have := esc_len true p2.data.toList
            rw [size_list] at this
            rw [hy4, List.length_append]
            omega
          clear hu4 hy4 hx3 HU3
          go_wp2_with (at_builtin; refine app_oneF w4 rfl _ _ rfl WL rv v4 y4 rfl 34 rfl 34 rfl HU4.out (by omega) ?_)
          intro v5 w5 hu5
          obtain ⟨y5, hy5⟩ : ∃ y5, y5 = y4 ++ [34] := ⟨_, rfl⟩
          rw [← hy5] at hu5
          have HU5 : Hid (Upd WL w5 rv v5 y5) := hu5
          have HY5 : Hid (y5 = y4 ++ [34]) := hy5
          have hl5 : y5.length ≤ 33554433 := by rw [hy5, List.length_append]; simp; omega
          clear hu5 hy5 HU4
          go_wp2_with (at_builtin; refine app_oneF w5 rfl _ _ rfl WL rv v5 y5 rfl 125 rfl 125 rfl HU5.out (by omega) ?_)
          intro v6 w6 hu6
          have HE : Hid (y5 ++ [125] = (xs ++ name.data.toList) ++ written ls (k + 1)) := by
            show _ = _
            rw [← HF.out, HY5.out, HY4.out, HY3.out, HY2.out, HY1.out]
            simp
          have HU6 : Hid (Upd wB w6 rb v6 (y5 ++ [125])) := HUW.out _ _ _ hu6
          clear hu6 HU5
          go_wp2
          go_roundw
          case rel => exact ⟨k + 1, _, by omega, by go_num, HE, HU6⟩
          case measure => simp [intOf]; omega
        · have hkn' : ((k : Int) == (ls.length : Int) - 1) = false := by simp; omega
          have HZ : Hid (([] : List UInt8) = if k + 1 = ls.length then [125] else []) := by show _ = _; rw [if_neg hkn]
          have HF : Hid (ys ++ ([123] ++ (p1.data.toList ++ ([61, 34] ++ (esc true p2.data.toList ++ ([34] ++ []))))) = (xs ++ name.data.toList) ++ written ls (k + 1)) := HN.out _ HC0.out _ HZ.out
          clear hkn HN HC0 HZ
          go_wp2_with (at_builtin; rw [← HWL.out]; refine app_oneG WL rfl _ _ rfl WL rv u0 ys rfl 123 _ rfl HSZ.out 123 rfl HUL.out (by omega) ?_)
          intro v1 w1 hu1
          obtain ⟨y1, hy1⟩ : ∃ y1, y1 = ys ++ [123] := ⟨_, rfl⟩
          rw [← hy1] at hu1
          have HU1 : Hid (Upd WL w1 rv v1 y1) := hu1
          have HY1 : Hid (y1 = ys ++ [123]) := hy1
          have hl1 : y1.length ≤ 4194305 := by rw [hy1, List.length_append]; simp; omega
          have hx1 : w1.cell? ⟨wr.heap.size, 0, none⟩ = some (.string p1) := hu1.cell (by rw [HWL.out]; simp) HVL.out
          clear hu1 hy1 HUL
          go_wp2_with (at_builtin; refine app_strF w1 rfl _ _ rfl WL rv v1 y1 rfl p1 rfl HU1.out (by omega) ?_)
          intro v2' w2' hu2
          obtain ⟨y2, hy2⟩ : ∃ y2, y2 = y1 ++ p1.data.toList := ⟨_, rfl⟩
          rw [← hy2] at hu2
          have HUU2 : Hid (Upd WL w2' rv v2' y2) := hu2
          have HY2 : Hid (y2 = y1 ++ p1.data.toList) := hy2
          have hl2 : y2.length ≤ 8388610 := by rw [hy2, List.length_append, size_list]; omega
          clear hu2 hy2 hx1 HU1
          go_wp2_with (at_builtin; refine app_strF w2' rfl _ _ rfl WL rv v2' y2 rfl _ rfl HUU2.out (by show y2.length + 2 ≤ _; omega) ?_)
          intro v3 w3 hu3
          obtain ⟨y3, hy3⟩ : ∃ y3, y3 = y2 ++ [61, 34] := ⟨_, rfl⟩
          have hu3' : Upd WL w3 rv v3 y3 := by rw [hy3]; exact hu3
          have HU3 : Hid (Upd WL w3 rv v3 y3) := hu3'
          have HY3 : Hid (y3 = y2 ++ [61, 34]) := hy3
          have hl3 : y3.length ≤ 8388612 := by rw [hy3, List.length_append]; simp; omega
          have hx3 : w3.cell? ⟨wr.heap.size, 1, none⟩ = some (.string p2) := hu3'.cell (by rw [HWL.out]; simp) HVL.out
          clear hu3 hu3' hy3 HUU2
          go_wp2_with fail
          refine (escF_any v3 y3 p2 true w3 HU3.out.1 (by omega)).mono ?_
          rintro e w4 ⟨v4, rfl, hu4⟩
          obtain ⟨y4, hy4⟩ : ∃ y4, y4 = y3 ++ esc true p2.data.toList := ⟨_, rfl⟩
          rw [← hy4] at hu4
          have HU4 : Hid (Upd WL w4 rv v4 y4) := HU3.out.trans hu4
          have HY4 : Hid (y4 = y3 ++ esc true p2.data.toList) := hy4
          have hl4 : y4.length ≤ 33554432 := by
            have := esc_len true p2.data.toList
            rw [size_list] at this
            rw [hy4, List.length_append]
            omega
          clear hu4 hy4 hx3 HU3
          go_wp2_with (at_builtin; refine app_oneF w4 rfl _ _ rfl WL rv v4 y4 rfl 34 rfl 34 rfl HU4.out (by omega) ?_)
          intro v5 w5 hu5
          obtain ⟨y5, hy5⟩ : ∃ y5, y5 = y4 ++ [34] := ⟨_, rfl⟩
          rw [← hy5] at hu5
          have HU5 : Hid (Upd WL w5 rv v5 y5) := hu5
          have HY5 : Hid (y5 = y4 ++ [34]) := hy5
          have hl5 : y5.length ≤ 33554433 := by rw [hy5, List.length_append]; simp; omega
          clear hu5 hy5 HU4
          have HE : Hid (y5 = (xs ++ name.data.toList) ++ written ls (k + 1)) := by
            show _ = _
            rw [← HF.out, HY5.out, HY4.out, HY3.out, HY2.out, HY1.out]
            simp
          have HU6 : Hid (Upd wB w5 rb v5 y5) := HUW.out _ _ _ HU5.out
          clear HU5
          go_wp2
          go_roundw
          case rel => exact ⟨k + 1, _, by omega, by go_num, HE, HU6⟩
          case measure => simp [intOf]; omega
      · have hk0' : ((k : Int) == 0) = false := by simp; omega
        have HC0 : Hid ((44 : UInt8) = if k = 0 then 123 else 44) := by show _ = _; rw [if_neg hk0]
        clear hk0
        by_cases hkn : k + 1 = ls.length
        · have hkn' : ((k : Int) == (ls.length : Int) - 1) = true := by simp; omega
          have HZ : Hid (([125] : List UInt8) = if k + 1 = ls.length then [125] else []) := by show _ = _; rw [if_pos hkn]
          have HF : Hid (ys ++ ([44] ++ (p1.data.toList ++ ([61, 34] ++ (esc true p2.data.toList ++ ([34] ++ [125]))))) = (xs ++ name.data.toList) ++ written ls (k + 1)) := HN.out _ HC0.out _ HZ.out
          clear hkn HN HC0 HZ
          go_wp2_with (at_builtin; rw [← HWL.out]; refine app_oneG WL rfl _ _ rfl WL rv u0 ys rfl 44 _ rfl HSZ.out 44 rfl HUL.out (by omega) ?_)
          intro v1 w1 hu1
          obtain ⟨y1, hy1⟩ : ∃ y1, y1 = ys ++ [44] := ⟨_, rfl⟩
          rw [← hy1] at hu1
          have HU1 : Hid (Upd WL w1 rv v1 y1) := hu1
          have HY1 : Hid (y1 = ys ++ [44]) := hy1
          have hl1 : y1.length ≤ 4194305 := by rw [hy1, List.length_append]; simp; omega
          have hx1 : w1.cell? ⟨wr.heap.size, 0, none⟩ = some (.string p1) := hu1.cell (by rw [HWL.out]; simp) HVL.out
          clear hu1 hy1 HUL
          go_wp2_with (at_builtin; refine app_strF w1 rfl _ _ rfl WL rv v1 y1 rfl p1 rfl HU1.out (by omega) ?_)
          intro v2' w2' hu2
          obtain ⟨y2, hy2⟩ : ∃ y2, y2 = y1 ++ p1.data.toList := ⟨_, rfl⟩
          rw [← hy2] at hu2
          have HUU2 : Hid (Upd WL w2' rv v2' y2) := hu2
          have HY2 : Hid (y2 = y1 ++ p1.data.toList) := hy2
          have hl2 : y2.length ≤ 8388610 := by rw [hy2, List.length_append, size_list]; omega
          clear hu2 hy2 hx1 HU1
          go_wp2_with (at_builtin; refine app_strF w2' rfl _ _ rfl WL rv v2' y2 rfl _ rfl HUU2.out (by show y2.length + 2 ≤ _; omega) ?_)
          intro v3 w3 hu3
          obtain ⟨y3, hy3⟩ : ∃ y3, y3 = y2 ++ [61, 34] := ⟨_, rfl⟩
          have hu3' : Upd WL w3 rv v3 y3 := by rw [hy3]; exact hu3
          have HU3 : Hid (Upd WL w3 rv v3 y3) := hu3'
          have HY3 : Hid (y3 = y2 ++ [61, 34]) := hy3
          have hl3 : y3.length ≤ 8388612 := by rw [hy3, List.length_append]; simp; omega
          have hx3 : w3.cell? ⟨wr.heap.size, 1, none⟩ = some (.string p2) := hu3'.cell (by rw [HWL.out]; simp) HVL.out
          clear hu3 hu3' hy3 HUU2
          go_wp2_with fail
          refine (escF_any v3 y3 p2 true w3 HU3.out.1 (by omega)).mono ?_
          rintro e w4 ⟨v4, rfl, hu4⟩
          obtain ⟨y4, hy4⟩ : ∃ y4, y4 = y3 ++ esc true p2.data.toList := ⟨_, rfl⟩
          rw [← hy4] at hu4
          have HU4 : Hid (Upd WL w4 rv v4 y4) := HU3.out.trans hu4
          have HY4 : Hid (y4 = y3 ++ esc true p2.data.toList) := hy4
          have hl4 : y4.length ≤ 33554432 := by
            have := esc_len true p2.data.toList
            rw [size_list] at this
            rw [hy4, List.length_append]
            omega
          clear hu4 hy4 hx3 HU3
          go_wp2_with (at_builtin; refine app_oneF w4 rfl _ _ rfl WL rv v4 y4 rfl 34 rfl 34 rfl HU4.out (by omega) ?_)
          intro v5 w5 hu5
          obtain ⟨y5, hy5⟩ : ∃ y5, y5 = y4 ++ [34] := ⟨_, rfl⟩
          rw [← hy5] at hu5
          have HU5 : Hid (Upd WL w5 rv v5 y5) := hu5
          have HY5 : Hid (y5 = y4 ++ [34]) := hy5
          have hl5 : y5.length ≤ 33554433 := by rw [hy5, List.length_append]; simp; omega
          clear hu5 hy5 HU4
          go_wp2_with (at_builtin; refine app_oneF w5 rfl _ _ rfl WL rv v5 y5 rfl 125 rfl 125 rfl HU5.out (by omega) ?_)
          intro v6 w6 hu6
          have HE : Hid (y5 ++ [125] = (xs ++ name.data.toList) ++ written ls (k + 1)) := by
            show _ = _
            rw [← HF.out, HY5.out, HY4.out, HY3.out, HY2.out, HY1.out]
            simp
          have HU6 : Hid (Upd wB w6 rb v6 (y5 ++ [125])) := HUW.out _ _ _ hu6
          clear hu6 HU5
          go_wp2
          go_roundw
          case rel => exact ⟨k + 1, _, by omega, by go_num, HE, HU6⟩
          case measure => simp [intOf]; omega
        · have hkn' : ((k : Int) == (ls.length : Int) - 1) = false := by simp; omega
          have HZ : Hid (([] : List UInt8) = if k + 1 = ls.length then [125] else []) := by show _ = _; rw [if_neg hkn]
          have HF : Hid (ys ++ ([44] ++ (p1.data.toList ++ ([61, 34] ++ (esc true p2.data.toList ++ ([34] ++ []))))) = (xs ++ name.data.toList) ++ written ls (k + 1)) := HN.out _ HC0.out _ HZ.out
          clear hkn HN HC0 HZ
          go_wp2_with (at_builtin; rw [← HWL.out]; refine app_oneG WL rfl _ _ rfl WL rv u0 ys rfl 44 _ rfl HSZ.out 44 rfl HUL.out (by omega) ?_)
          intro v1 w1 hu1
          obtain ⟨y1, hy1⟩ : ∃ y1, y1 = ys ++ [44] := ⟨_, rfl⟩
          rw [← hy1] at hu1
          have HU1 : Hid (Upd WL w1 rv v1 y1) := hu1
          have HY1 : Hid (y1 = ys ++ [44]) := hy1
          have hl1 : y1.length ≤ 4194305 := by rw [hy1, List.length_append]; simp; omega
          have hx1 : w1.cell? ⟨wr.heap.size, 0, none⟩ = some (.string p1) := hu1.cell (by rw [HWL.out]; simp) HVL.out
          clear hu1 hy1 HUL
          go_wp2_with (at_builtin; refine app_strF w1 rfl _ _ rfl WL rv v1 y1 rfl p1 rfl HU1.out (by omega) ?_)
          intro v2' w2' hu2
          obtain ⟨y2, hy2⟩ : ∃ y2, y2 = y1 ++ p1.data.toList := ⟨_, rfl⟩
          rw [← hy2] at hu2
          have HUU2 : Hid (Upd WL w2' rv v2' y2) := hu2
          have HY2 : Hid (y2 = y1 ++ p1.data.toList) := hy2
          have hl2 : y2.length ≤ 8388610 := by rw [hy2, List.length_append, size_list]; omega
          clear hu2 hy2 hx1 HU1
          go_wp2_with (at_builtin; refine app_strF w2' rfl _ _ rfl WL rv v2' y2 rfl _ rfl HUU2.out (by show y2.length + 2 ≤ _; omega) ?_)
          intro v3 w3 hu3
          obtain ⟨y3, hy3⟩ : ∃ y3, y3 = y2 ++ [61, 34] := ⟨_, rfl⟩
          have hu3' : Upd WL w3 rv v3 y3 := by rw [hy3]; exact hu3
          have HU3 : Hid (Upd WL w3 rv v3 y3) := hu3'
          have HY3 : Hid (y3 = y2 ++ [61, 34]) := hy3
          have hl3 : y3.length ≤ 8388612 := by rw [hy3, List.length_append]; simp; omega
          have hx3 : w3.cell? ⟨wr.heap.size, 1, none⟩ = some (.string p2) := hu3'.cell (by rw [HWL.out]; simp) HVL.out
          clear hu3 hu3' hy3 HUU2
          go_wp2_with fail
          refine (escF_any v3 y3 p2 true w3 HU3.out.1 (by omega)).mono ?_
          rintro e w4 ⟨v4, rfl, hu4⟩
          obtain ⟨y4, hy4⟩ : ∃ y4, y4 = y3 ++ esc true p2.data.toList := ⟨_, rfl⟩
          rw [← hy4] at hu4
          have HU4 : Hid (Upd WL w4 rv v4 y4) := HU3.out.trans hu4
          have HY4 : Hid (y4 = y3 ++ esc true p2.data.toList) := hy4
          have hl4 : y4.length ≤ 33554432 := by
            have := esc_len true p2.data.toList
            rw [size_list] at this
            rw [hy4, List.length_append]
            omega
          clear hu4 hy4 hx3 HU3
          go_wp2_with (at_builtin; refine app_oneF w4 rfl _ _ rfl WL rv v4 y4 rfl 34 rfl 34 rfl HU4.out (by omega) ?_)
          intro v5 w5 hu5
          obtain ⟨y5, hy5⟩ : ∃ y5, y5 = y4 ++ [34] := ⟨_, rfl⟩
          rw [← hy5] at hu5
          have HU5 : Hid (Upd WL w5 rv v5 y5) := hu5
          have HY5 : Hid (y5 = y4 ++ [34]) := hy5
          have hl5 : y5.length ≤ 33554433 := by rw [hy5, List.length_append]; simp; omega
          clear hu5 hy5 HU4
          have HE : Hid (y5 = (xs ++ name.data.toList) ++ written ls (k + 1)) := by
            show _ = _
            rw [← HF.out, HY5.out, HY4.out, HY3.out, HY2.out, HY1.out]
            simp
          have HU6 : Hid (Upd wB w5 rb v5 y5) := HUW.out _ _ _ HU5.out
          clear HU5
          go_wp2
          go_roundw
          case rel => exact ⟨k + 1, _, by omega, by go_num, HE, HU6⟩
          case measure => simp [intOf]; omega
    · have hkn : k = ls.length := by omega
      obtain ⟨z0, hz0⟩ : ∃ z0, z0 = ys.length := ⟨_, rfl⟩
      have hyl : ys.length ≤ 4194304 := by
        have h1 := written_len ls k hk
        have h2 := tot_take ls k
        rw [HY.out, List.length_append, List.length_append, size_list]
        omega
      have hvs : value.size ≤ 4194304 := by omega
      have HYE : Hid (ys = (xs ++ name.data.toList) ++ labs ls) := by
        have := HY.out
        rw [hkn] at this
        exact this
      clear HY hkn hz0 z0 HNE HLB HUb
      go_wp2_with (at_builtin; refine app_oneF wr rfl _ _ rfl wB rb u0 ys rfl 32 rfl 32 rfl HU.out (by omega) ?_)
      intro v1 w1 hu1
      obtain ⟨y1, hy1⟩ : ∃ y1, y1 = ys ++ [32] := ⟨_, rfl⟩
      rw [← hy1] at hu1
      have HU1 : Hid (Upd wB w1 rb v1 y1) := hu1
      have HY1 : Hid (y1 = ys ++ [32]) := hy1
      have hl1 : y1.length ≤ 4194305 := by rw [hy1, List.length_append]; simp; omega
      clear hu1 hy1 HU
      go_wp2_with (at_builtin; refine app_strF w1 rfl _ _ rfl wB rb v1 y1 rfl value rfl HU1.out (by omega) ?_)
      intro v2' w2' hu2
      obtain ⟨y2, hy2⟩ : ∃ y2, y2 = y1 ++ value.data.toList := ⟨_, rfl⟩
      rw [← hy2] at hu2
      have HUU2 : Hid (Upd wB w2' rb v2' y2) := hu2
      have HY2 : Hid (y2 = y1 ++ value.data.toList) := hy2
      have hl2 : y2.length ≤ 8388610 := by rw [hy2, List.length_append, size_list]; omega
      clear hu2 hy2 HU1
      go_wp2_with (at_builtin; refine app_oneF w2' rfl _ _ rfl wB rb v2' y2 rfl 10 rfl 10 rfl HUU2.out (by omega) ?_)
      intro v3 w3 hu3
      have HE : Hid (y2 ++ [10] = xs ++ line name ls value) := by
        show _ = _
        rw [HY2.out, HY1.out, HYE.out, line]
        simp
      have HU3 : Hid (Upd w w3 r0 v3 (xs ++ line name ls value)) := by
        rw [HE.out] at hu3
        exact HUZ.out _ _ _ hu3
      clear hu3 HUU2
      go_wp2
      go_ret
      exact ⟨_, rfl, HU3.out⟩

end Go.Proofs.Qxb6605486a
