/-
  THE WALK of appendSample (21): it appends the line of Qxb6605486aLine. The loop's round is written out by program, a text for each of its four ways.
-/
import Derived.Test.Qxb6605486aFine
import Derived.Test.Qxb6605486aLine
import Derived.Deep.RegionLawGrows
namespace Go.Proofs.Qxb6605486a
open Go.ChangeShapes Go.WideShapes Go.ChangeAt Go.RowKit

/-- The labels ls lie at the address, two cells each. -/
def RdL (w : World) (al : Option Addr) (ls : List Lab) : Prop :=
  ls = [] ∨ ∃ b off, al = some ⟨b, off, none⟩ ∧ ∀ j, j < ls.length → w.cell? ⟨b, off + j * 2, none⟩ = some (.string (ls.getD j lab0).1) ∧ w.cell? ⟨b, off + j * 2 + 1, none⟩ = some (.string (ls.getD j lab0).2)

/-- They lie in no row r. -/
def Apart (al : Option Addr) (ls : List Lab) (r : Option Nat) : Prop := ∀ b off, al = some ⟨b, off, none⟩ → ls ≠ [] → some b ≠ r

/-- They are still there, and still apart, while a slice is appended to. -/
theorem Upd.labels {w0 w : World} {r0 : Option Nat} {v : Value} {ys : List UInt8} {al : Option Addr} {ls : List Lab} (h : Upd w0 w r0 v ys) (hr : RdL w0 al ls) (ha : Apart al ls r0) : RdL w al ls ∧ Apart al ls v.ownBlock := by
  rcases hr with hr | ⟨b, off, hal, hc⟩
  · exact ⟨.inl hr, fun b off _ hne => absurd hr hne⟩
  · by_cases hne : ls = []
    · exact ⟨.inl hne, fun b off _ hne' => absurd hne hne'⟩
    · have hb := ha b off hal hne
      refine ⟨.inr ⟨b, off, hal, fun j hj => ⟨h.cell (hc j hj).1 hb, h.cell (hc j hj).2 hb⟩⟩, ?_⟩
      intro b' off' hal' _
      rw [hal] at hal'
      simp only [Option.some.injEq, Addr.mk.injEq, and_true] at hal'
      obtain ⟨rfl, rfl⟩ := hal'
      rcases h.2.2 with p | ⟨g, p, hg⟩
      · rw [p]; exact hb
      · rw [p]
        intro e
        obtain rfl := Option.some.inj e
        have hlen : 0 < ls.length := List.length_pos_iff.2 hne
        have := World.block_lt_of_cell? w0 _ (hc 0 hlen).1
        simp only [] at this
        omega

section
variable (w : World) {ops : Array Oper} {rest : List Oper} {o : Oper} {a : Act} {Q : Exit → Act → World → Prop}

/-- 'app_oneF', the last block's number under a name of its own. -/
theorem app_oneG (hgd : o.guard = none) (sl x : Operand) (ho : o.op = .call { callee := .builtin .append, args := #[sl, x], argTypes := #[22, 22] }) (w0 : World) (r0 : Option Nat) (v : Value) (ys : List UInt8) (hs : a.eval sl = v)
    (ci : Int) (g : Nat) (hx : a.eval x = .slice (some ⟨g, 0, none⟩) 1 1) (hg : w.heap.size = g) (c : UInt8) (hci : ci = (c.toNat : Int)) (hown : Upd w0 w r0 v ys) (hb : ys.length + 1 ≤ 140737488355328)
    (h : ∀ v' w', Upd w0 w' r0 v' (ys ++ [c]) → wpList Try.prog ops Q rest (a.put o.dst v') w') : wpList Try.prog ops Q (o :: rest) a (w.alloc (.cells #[.int .u8 ci] 5)) := by
  subst hg
  exact app_oneF w hgd sl x ho w0 r0 v ys hs ci hx c hci hown hb h
end

set_option maxHeartbeats 4000000 in
theorem sample_plain (v : Value) (xs : List UInt8) (name value ev : ByteArray) (al : Option Addr) (cl : Nat) (ls : List Lab) (w : World) (hown : w.ownsRow 0 5 1 v xs.length (bs xs))
    (hr : RdL w al ls) (hap : Apart al ls v.ownBlock) (hlen : xs.length + name.size + value.size + 4 * ls.length + 2 * tot ls ≤ 4194296) :
    Calls Try.prog 21 #[v, .string name, .slice al ls.length cl, .agg #[.string ByteArray.empty, .string ev], .string value] w fun e w' => ∃ v', e = .returned v' ∧ Upd w w' v.ownBlock v' (xs ++ line name ls value) := by
  obtain ⟨r0, hr0⟩ : ∃ r0, r0 = v.ownBlock := ⟨_, rfl⟩
  obtain ⟨W1, hW1⟩ : ∃ W1, W1 = w.alloc (.cells #[.string ByteArray.empty, .string ev] 38) := ⟨_, rfl⟩
  have HU0 : Hid (Upd w W1 r0 v xs) := by rw [hr0, hW1]; exact (Upd.start hown).alloc _
  have HU1 : Hid (Upd W1 W1 r0 v xs) := by rw [hr0]; exact (Upd.since HU0.out)
  have HUZ0 : Hid (∀ w' v' ys', Upd W1 w' r0 v' ys' → Upd w w' r0 v' ys') := by
    intro w' v' ys' h
    rw [hr0] at h ⊢
    have h0 := HU0.out
    rw [hr0] at h0
    exact h0.trans h
  have hbr : some w.heap.size ≠ r0 := by
    intro e
    have := (hown.lt w.heap.size (by rw [← hr0]; exact e.symm)).2
    omega
  have HBR : Hid (some w.heap.size ≠ r0) := hbr
  have HL1 : Hid (RdL W1 al ls ∧ Apart al ls r0) := by
    have h0 := HU0.out.labels hr (by rw [hr0]; exact hap)
    rw [← hr0] at h0
    exact h0
  rw [← hr0]
  clear hr0 hown hbr hr hap
  have HW : Hid (W1 = w.alloc (.cells #[.string ByteArray.empty, .string ev] 38)) := hW1
  clear hW1
  go_enter Try.func21, Try.ntmps21
  go_wp2_with (at_builtin; rw [← HW.out]; refine app_strF W1 rfl _ _ rfl W1 r0 v xs rfl name rfl HU1.out (by omega) ?_)
  intro v2 w2 hu2
  have hb1 : w2.cell? ⟨w.heap.size, 0, none⟩ = some (.string ByteArray.empty) := hu2.cell (by rw [HW.out]; simp) HBR.out
  obtain ⟨rb, hrb⟩ : ∃ rb, rb = v2.ownBlock := ⟨_, rfl⟩
  have HUb : Hid (Upd w2 w2 rb v2 (xs ++ name.data.toList)) := by rw [hrb]; exact hu2.since
  have HUZ : Hid (∀ w' v' ys', Upd w2 w' rb v' ys' → Upd w w' r0 v' ys') := by
    intro w' v' ys' h
    rw [hrb] at h
    exact HUZ0.out _ _ _ (hu2.trans h)
  have hl2 := hu2.labels HL1.out.1 HL1.out.2
  rw [← hrb] at hl2
  have HLB : Hid (RdL w2 al ls) := hl2.1
  have HNE : Hid (Apart al ls rb) := hl2.2
  clear hl2 hrb hu2 HU0 HU1 HUZ0 HL1 HW HBR
  go_wp2
  go_loopw [0, 30] (fun v i wr => ∃ (k : Nat) (ys : List UInt8), k ≤ ls.length ∧ i = .int .i64 k ∧ Hid (ys = (xs ++ name.data.toList) ++ written ls k) ∧ Hid (Upd w2 wr rb v ys)) (fun _ i _ => ls.length - (intOf i).toNat)
  case atStart => exact ⟨0, _, Nat.zero_le _, rfl, show _ = _ by simp [written], HUb⟩
  case round =>
    obtain ⟨k, ys, hk, rfl, HY, HU⟩ := hrel
    by_cases hlt : k < ls.length
    · have hne : ls ≠ [] := by intro e; rw [e] at hlt; simp at hlt
      obtain ⟨b, off, hal, hc⟩ : ∃ b off, al = some ⟨b, off, none⟩ ∧ ∀ j, j < ls.length → w2.cell? ⟨b, off + j * 2, none⟩ = some (.string (ls.getD j lab0).1) ∧ w2.cell? ⟨b, off + j * 2 + 1, none⟩ = some (.string (ls.getD j lab0).2) := by
        rcases HLB.out with h | h
        · exact absurd h hne
        · exact h
      have hbn := HNE.out b off hal hne
      obtain ⟨p1, hp1⟩ : ∃ p1, p1 = (ls.getD k lab0).1 := ⟨_, rfl⟩
      obtain ⟨p2, hp2⟩ : ∃ p2, p2 = (ls.getD k lab0).2 := ⟨_, rfl⟩
      have hc1 : wr.cell? ⟨b, off + k * 2, none⟩ = some (.string p1) := by rw [hp1]; exact HU.out.cell (hc k hlt).1 hbn
      have hc2 : wr.cell? ⟨b, off + k * 2 + 1, none⟩ = some (.string p2) := by rw [hp2]; exact HU.out.cell (hc k hlt).2 hbn
      have HP1 : Hid (p1 = (ls.getD k lab0).1) := hp1
      have HP2 : Hid (p2 = (ls.getD k lab0).2) := hp2
      clear hp1 hp2 hc hbn HNE HLB hne HUb
      subst hal
      have hkl : (k : Int) < (ls.length : Int) := by omega
      have hyl : ys.length ≤ 4194304 := by
        have h1 := written_len ls k hk
        have h2 := tot_take ls k
        rw [HY.out, List.length_append, List.length_append, size_list]
        omega
      have hp12 : p1.size + p2.size ≤ 4194304 := by
        have := tot_at ls k hlt
        rw [HP1.out, HP2.out]
        omega
      obtain ⟨WL, hWL⟩ : ∃ WL, WL = wr.alloc (.cells #[.string p1, .string p2] 38) := ⟨_, rfl⟩
      obtain ⟨rv, hrv⟩ : ∃ rv, rv = u0.ownBlock := ⟨_, rfl⟩
      have HVL : Hid (some wr.heap.size ≠ rv) := by
        intro e
        have := (HU.out.1.lt wr.heap.size (by rw [← hrv]; exact e.symm)).2
        omega
      have HUL : Hid (Upd WL WL rv u0 ys) := by rw [hrv, hWL]; exact (HU.out.alloc _).since
      have HUW : Hid (∀ w' v' ys', Upd WL w' rv v' ys' → Upd w2 w' rb v' ys') := by
        intro w' v' ys' h
        rw [hWL, hrv] at h
        exact (HU.out.alloc _).trans h
      have HWL : Hid (WL = wr.alloc (.cells #[.string p1, .string p2] 38)) := hWL
      have HSZ : Hid (WL.heap.size = wr.heap.size + 1) := by show _ = _; rw [hWL]; simp
      have HN : Hid (∀ c : UInt8, (c = if k = 0 then 123 else 44) → ∀ z : List UInt8, (z = if k + 1 = ls.length then [125] else []) → ys ++ ([c] ++ (p1.data.toList ++ ([61, 34] ++ (esc true p2.data.toList ++ ([34] ++ z))))) = (xs ++ name.data.toList) ++ written ls (k + 1)) := by
        intro c hc z hz
        rw [written_step ls k hlt c hc z hz, HY.out, HP1.out, HP2.out, List.append_assoc]
      clear hWL hrv HU HY HP1 HP2
      by_cases hk0 : k = 0
      · have hk0' : ((k : Int) == 0) = true := by simp [hk0]
        have HC0 : Hid ((123 : UInt8) = if k = 0 then 123 else 44) := by show _ = _; rw [if_pos hk0]
        clear hk0
        by_cases hkn : k + 1 = ls.length
        · have hkn' : ((k : Int) == (ls.length : Int) - 1) = true := by simp; omega
          have HZ : Hid (([125] : List UInt8) = if k + 1 = ls.length then [125] else []) := by show _ = _; rw [if_pos hkn]
          have HF : Hid (ys ++ ([123] ++ (p1.data.toList ++ ([61, 34] ++ (esc true p2.data.toList ++ ([34] ++ [125]))))) = (xs ++ name.data.toList) ++ written ls (k + 1)) := HN.out _ HC0.out _ HZ.out
          clear hkn HN HC0 HZ
          go_wp2_with (at_builtin; rw [← HWL.out]; refine app_oneG WL rfl _ _ rfl WL rv u0 ys rfl 123 _ rfl HSZ.out 123 rfl HUL.out (by omega) ?_)
          intro v1 w1 hu1
          obtain ⟨y1, hy1⟩ : ∃ y1, y1 = ys ++ [123] := ⟨_, rfl⟩
          rw [← hy1] at hu1
          have HU1 : Hid (Upd WL w1 rv v1 y1) := hu1
          have HY1 : Hid (y1 = ys ++ [123]) := hy1
          have hl1 : y1.length ≤ 4194305 := by rw [hy1, List.length_append]; simp; omega
          have hx1 : w1.cell? ⟨wr.heap.size, 0, none⟩ = some (.string p1) := hu1.cell (by rw [HWL.out]; simp) HVL.out
          clear hu1 hy1 HUL
          go_wp2_with (at_builtin; refine app_strF w1 rfl _ _ rfl WL rv v1 y1 rfl p1 rfl HU1.out (by omega) ?_)
          intro v2' w2' hu2
          obtain ⟨y2, hy2⟩ : ∃ y2, y2 = y1 ++ p1.data.toList := ⟨_, rfl⟩
          rw [← hy2] at hu2
          have HUU2 : Hid (Upd WL w2' rv v2' y2) := hu2
          have HY2 : Hid (y2 = y1 ++ p1.data.toList) := hy2
          have hl2 : y2.length ≤ 8388610 := by rw [hy2, List.length_append, size_list]; omega
          clear hu2 hy2 hx1 HU1
          go_wp2_with (at_builtin; refine app_strF w2' rfl _ _ rfl WL rv v2' y2 rfl _ rfl HUU2.out (by show y2.length + 2 ≤ _; omega) ?_)
          intro v3 w3 hu3
          obtain ⟨y3, hy3⟩ : ∃ y3, y3 = y2 ++ [61, 34] := ⟨_, rfl⟩
          have hu3' : Upd WL w3 rv v3 y3 := by rw [hy3]; exact hu3
          have HU3 : Hid (Upd WL w3 rv v3 y3) := hu3'
          have HY3 : Hid (y3 = y2 ++ [61, 34]) := hy3
          have hl3 : y3.length ≤ 8388612 := by rw [hy3, List.length_append]; simp; omega
          have hx3 : w3.cell? ⟨wr.heap.size, 1, none⟩ = some (.string p2) := hu3'.cell (by rw [HWL.out]; simp) HVL.out
          clear hu3 hu3' hy3 HUU2
          go_wp2_with fail
          refine (escF_any v3 y3 p2 true w3 HU3.out.1 (by omega)).mono ?_
          rintro e w4 ⟨v4, rfl, hu4⟩
          obtain ⟨y4, hy4⟩ : ∃ y4, y4 = y3 ++ esc true p2.data.toList := ⟨_, rfl⟩
          rw [← hy4] at hu4
          have HU4 : Hid (Upd WL w4 rv v4 y4) := HU3.out.trans hu4
          have HY4 : Hid (y4 = y3 ++ esc true p2.data.toList) := hy4
          have hl4 : y4.length ≤ 33554432 := by
            have := esc_len true p2.data.toList
            rw [size_list] at this
            rw [hy4, List.length_append]
            omega
          clear hu4 hy4 hx3 HU3
          go_wp2_with (at_builtin; refine app_oneF w4 rfl _ _ rfl WL rv v4 y4 rfl 34 rfl 34 rfl HU4.out (by omega) ?_)
          intro v5 w5 hu5
          obtain ⟨y5, hy5⟩ : ∃ y5, y5 = y4 ++ [34] := ⟨_, rfl⟩
          rw [← hy5] at hu5
          have HU5 : Hid (Upd WL w5 rv v5 y5) := hu5
          have HY5 : Hid (y5 = y4 ++ [34]) := hy5
          have hl5 : y5.length ≤ 33554433 := by rw [hy5, List.length_append]; simp; omega
          clear hu5 hy5 HU4
          go_wp2_with (at_builtin; refine app_oneF w5 rfl _ _ rfl WL rv v5 y5 rfl 125 rfl 125 rfl HU5.out (by omega) ?_)
          intro v6 w6 hu6
          have HE : Hid (y5 ++ [125] = (xs ++ name.data.toList) ++ written ls (k + 1)) := by
            show _ = _
            rw [← HF.out, HY5.out, HY4.out, HY3.out, HY2.out, HY1.out]
            simp
          have HU6 : Hid (Upd w2 w6 rb v6 (y5 ++ [125])) := HUW.out _ _ _ hu6
          clear hu6 HU5
          go_wp2
          go_roundw
          case rel => exact ⟨k + 1, _, by omega, by go_num, HE, HU6⟩
          case measure => simp [intOf]; omega
        · have hkn' : ((k : Int) == (ls.length : Int) - 1) = false := by simp; omega
          have HZ : Hid (([] : List UInt8) = if k + 1 = ls.length then [125] else []) := by show _ = _; rw [if_neg hkn]
          have HF : Hid (ys ++ ([123] ++ (p1.data.toList ++ ([61, 34] ++ (esc true p2.data.toList ++ ([34] ++ []))))) = (xs ++ name.data.toList) ++ written ls (k + 1)) := HN.out _ HC0.out _ HZ.out
          clear hkn HN HC0 HZ
          go_wp2_with (at_builtin; rw [← HWL.out]; refine app_oneG WL rfl _ _ rfl WL rv u0 ys rfl 123 _ rfl HSZ.out 123 rfl HUL.out (by omega) ?_)
          intro v1 w1 hu1
          obtain ⟨y1, hy1⟩ : ∃ y1, y1 = ys ++ [123] := ⟨_, rfl⟩
          rw [← hy1] at hu1
          have HU1 : Hid (Upd WL w1 rv v1 y1) := hu1
          have HY1 : Hid (y1 = ys ++ [123]) := hy1
          have hl1 : y1.length ≤ 4194305 := by rw [hy1, List.length_append]; simp; omega
          have hx1 : w1.cell? ⟨wr.heap.size, 0, none⟩ = some (.string p1) := hu1.cell (by rw [HWL.out]; simp) HVL.out
          clear hu1 hy1 HUL
          go_wp2_with (at_builtin; refine app_strF w1 rfl _ _ rfl WL rv v1 y1 rfl p1 rfl HU1.out (by omega) ?_)
          intro v2' w2' hu2
          obtain ⟨y2, hy2⟩ : ∃ y2, y2 = y1 ++ p1.data.toList := ⟨_, rfl⟩
          rw [← hy2] at hu2
          have HUU2 : Hid (Upd WL w2' rv v2' y2) := hu2
          have HY2 : Hid (y2 = y1 ++ p1.data.toList) := hy2
          have hl2 : y2.length ≤ 8388610 := by rw [hy2, List.length_append, size_list]; omega
          clear hu2 hy2 hx1 HU1
          go_wp2_with (at_builtin; refine app_strF w2' rfl _ _ rfl WL rv v2' y2 rfl _ rfl HUU2.out (by show y2.length + 2 ≤ _; omega) ?_)
          intro v3 w3 hu3
          obtain ⟨y3, hy3⟩ : ∃ y3, y3 = y2 ++ [61, 34] := ⟨_, rfl⟩
          have hu3' : Upd WL w3 rv v3 y3 := by rw [hy3]; exact hu3
          have HU3 : Hid (Upd WL w3 rv v3 y3) := hu3'
          have HY3 : Hid (y3 = y2 ++ [61, 34]) := hy3
          have hl3 : y3.length ≤ 8388612 := by rw [hy3, List.length_append]; simp; omega
          have hx3 : w3.cell? ⟨wr.heap.size, 1, none⟩ = some (.string p2) := hu3'.cell (by rw [HWL.out]; simp) HVL.out
          clear hu3 hu3' hy3 HUU2
          go_wp2_with fail
          refine (escF_any v3 y3 p2 true w3 HU3.out.1 (by omega)).mono ?_
          rintro e w4 ⟨v4, rfl, hu4⟩
          obtain ⟨y4, hy4⟩ : ∃ y4, y4 = y3 ++ esc true p2.data.toList := ⟨_, rfl⟩
          rw [← hy4] at hu4
          have HU4 : Hid (Upd WL w4 rv v4 y4) := HU3.out.trans hu4
          have HY4 : Hid (y4 = y3 ++ esc true p2.data.toList) := hy4
          have hl4 : y4.length ≤ 33554432 := by
            have := esc_len true p2.data.toList
            rw [size_list] at this
            rw [hy4, List.length_append]
            omega
          clear hu4 hy4 hx3 HU3
          go_wp2_with (at_builtin; refine app_oneF w4 rfl _ _ rfl WL rv v4 y4 rfl 34 rfl 34 rfl HU4.out (by omega) ?_)
          intro v5 w5 hu5
          obtain ⟨y5, hy5⟩ : ∃ y5, y5 = y4 ++ [34] := ⟨_, rfl⟩
          rw [← hy5] at hu5
          have HU5 : Hid (Upd WL w5 rv v5 y5) := hu5
          have HY5 : Hid (y5 = y4 ++ [34]) := hy5
          have hl5 : y5.length ≤ 33554433 := by rw [hy5, List.length_append]; simp; omega
          clear hu5 hy5 HU4
          have HE : Hid (y5 = (xs ++ name.data.toList) ++ written ls (k + 1)) := by
            show _ = _
            rw [← HF.out, HY5.out, HY4.out, HY3.out, HY2.out, HY1.out]
            simp
          have HU6 : Hid (Upd w2 w5 rb v5 y5) := HUW.out _ _ _ HU5.out
          clear HU5
          go_wp2
          go_roundw
          case rel => exact ⟨k + 1, _, by omega, by go_num, HE, HU6⟩
          case measure => simp [intOf]; omega
      · have hk0' : ((k : Int) == 0) = false := by simp; omega
        have HC0 : Hid ((44 : UInt8) = if k = 0 then 123 else 44) := by show _ = _; rw [if_neg hk0]
        clear hk0
        by_cases hkn : k + 1 = ls.length
        · have hkn' : ((k : Int) == (ls.length : Int) - 1) = true := by simp; omega
          have HZ : Hid (([125] : List UInt8) = if k + 1 = ls.length then [125] else []) := by show _ = _; rw [if_pos hkn]
          have HF : Hid (ys ++ ([44] ++ (p1.data.toList ++ ([61, 34] ++ (esc true p2.data.toList ++ ([34] ++ [125]))))) = (xs ++ name.data.toList) ++ written ls (k + 1)) := HN.out _ HC0.out _ HZ.out
          clear hkn HN HC0 HZ
          go_wp2_with (at_builtin; rw [← HWL.out]; refine app_oneG WL rfl _ _ rfl WL rv u0 ys rfl 44 _ rfl HSZ.out 44 rfl HUL.out (by omega) ?_)
          intro v1 w1 hu1
          obtain ⟨y1, hy1⟩ : ∃ y1, y1 = ys ++ [44] := ⟨_, rfl⟩
          rw [← hy1] at hu1
          have HU1 : Hid (Upd WL w1 rv v1 y1) := hu1
          have HY1 : Hid (y1 = ys ++ [44]) := hy1
          have hl1 : y1.length ≤ 4194305 := by rw [hy1, List.length_append]; simp; omega
          have hx1 : w1.cell? ⟨wr.heap.size, 0, none⟩ = some (.string p1) := hu1.cell (by rw [HWL.out]; simp) HVL.out
          clear hu1 hy1 HUL
          go_wp2_with (at_builtin; refine app_strF w1 rfl _ _ rfl WL rv v1 y1 rfl p1 rfl HU1.out (by omega) ?_)
          intro v2' w2' hu2
          obtain ⟨y2, hy2⟩ : ∃ y2, y2 = y1 ++ p1.data.toList := ⟨_, rfl⟩
          rw [← hy2] at hu2
          have HUU2 : Hid (Upd WL w2' rv v2' y2) := hu2
          have HY2 : Hid (y2 = y1 ++ p1.data.toList) := hy2
          have hl2 : y2.length ≤ 8388610 := by rw [hy2, List.length_append, size_list]; omega
          clear hu2 hy2 hx1 HU1
          go_wp2_with (at_builtin; refine app_strF w2' rfl _ _ rfl WL rv v2' y2 rfl _ rfl HUU2.out (by show y2.length + 2 ≤ _; omega) ?_)
          intro v3 w3 hu3
          obtain ⟨y3, hy3⟩ : ∃ y3, y3 = y2 ++ [61, 34] := ⟨_, rfl⟩
          have hu3' : Upd WL w3 rv v3 y3 := by rw [hy3]; exact hu3
          have HU3 : Hid (Upd WL w3 rv v3 y3) := hu3'
          have HY3 : Hid (y3 = y2 ++ [61, 34]) := hy3
          have hl3 : y3.length ≤ 8388612 := by rw [hy3, List.length_append]; simp; omega
          have hx3 : w3.cell? ⟨wr.heap.size, 1, none⟩ = some (.string p2) := hu3'.cell (by rw [HWL.out]; simp) HVL.out
          clear hu3 hu3' hy3 HUU2
          go_wp2_with fail
          refine (escF_any v3 y3 p2 true w3 HU3.out.1 (by omega)).mono ?_
          rintro e w4 ⟨v4, rfl, hu4⟩
          obtain ⟨y4, hy4⟩ : ∃ y4, y4 = y3 ++ esc true p2.data.toList := ⟨_, rfl⟩
          rw [← hy4] at hu4
          have HU4 : Hid (Upd WL w4 rv v4 y4) := HU3.out.trans hu4
          have HY4 : Hid (y4 = y3 ++ esc true p2.data.toList) := hy4
          have hl4 : y4.length ≤ 33554432 := by
            have := esc_len true p2.data.toList
            rw [size_list] at this
            rw [hy4, List.length_append]
            omega
          clear hu4 hy4 hx3 HU3
          go_wp2_with (at_builtin; refine app_oneF w4 rfl _ _ rfl WL rv v4 y4 rfl 34 rfl 34 rfl HU4.out (by omega) ?_)
          intro v5 w5 hu5
          obtain ⟨y5, hy5⟩ : ∃ y5, y5 = y4 ++ [34] := ⟨_, rfl⟩
          rw [← hy5] at hu5
          have HU5 : Hid (Upd WL w5 rv v5 y5) := hu5
          have HY5 : Hid (y5 = y4 ++ [34]) := hy5
          have hl5 : y5.length ≤ 33554433 := by rw [hy5, List.length_append]; simp; omega
          clear hu5 hy5 HU4
          go_wp2_with (at_builtin; refine app_oneF w5 rfl _ _ rfl WL rv v5 y5 rfl 125 rfl 125 rfl HU5.out (by omega) ?_)
          intro v6 w6 hu6
          have HE : Hid (y5 ++ [125] = (xs ++ name.data.toList) ++ written ls (k + 1)) := by
            show _ = _
            rw [← HF.out, HY5.out, HY4.out, HY3.out, HY2.out, HY1.out]
            simp
          have HU6 : Hid (Upd w2 w6 rb v6 (y5 ++ [125])) := HUW.out _ _ _ hu6
          clear hu6 HU5
          go_wp2
          go_roundw
          case rel => exact ⟨k + 1, _, by omega, by go_num, HE, HU6⟩
          case measure => simp [intOf]; omega
        · have hkn' : ((k : Int) == (ls.length : Int) - 1) = false := by simp; omega
          have HZ : Hid (([] : List UInt8) = if k + 1 = ls.length then [125] else []) := by show _ = _; rw [if_neg hkn]
          have HF : Hid (ys ++ ([44] ++ (p1.data.toList ++ ([61, 34] ++ (esc true p2.data.toList ++ ([34] ++ []))))) = (xs ++ name.data.toList) ++ written ls (k + 1)) := HN.out _ HC0.out _ HZ.out
          clear hkn HN HC0 HZ
          go_wp2_with (at_builtin; rw [← HWL.out]; refine app_oneG WL rfl _ _ rfl WL rv u0 ys rfl 44 _ rfl HSZ.out 44 rfl HUL.out (by omega) ?_)
          intro v1 w1 hu1
          obtain ⟨y1, hy1⟩ : ∃ y1, y1 = ys ++ [44] := ⟨_, rfl⟩
          rw [← hy1] at hu1
          have HU1 : Hid (Upd WL w1 rv v1 y1) := hu1
          have HY1 : Hid (y1 = ys ++ [44]) := hy1
          have hl1 : y1.length ≤ 4194305 := by rw [hy1, List.length_append]; simp; omega
          have hx1 : w1.cell? ⟨wr.heap.size, 0, none⟩ = some (.string p1) := hu1.cell (by rw [HWL.out]; simp) HVL.out
          clear hu1 hy1 HUL
          go_wp2_with (at_builtin; refine app_strF w1 rfl _ _ rfl WL rv v1 y1 rfl p1 rfl HU1.out (by omega) ?_)
          intro v2' w2' hu2
          obtain ⟨y2, hy2⟩ : ∃ y2, y2 = y1 ++ p1.data.toList := ⟨_, rfl⟩
          rw [← hy2] at hu2
          have HUU2 : Hid (Upd WL w2' rv v2' y2) := hu2
          have HY2 : Hid (y2 = y1 ++ p1.data.toList) := hy2
          have hl2 : y2.length ≤ 8388610 := by rw [hy2, List.length_append, size_list]; omega
          clear hu2 hy2 hx1 HU1
          go_wp2_with (at_builtin; refine app_strF w2' rfl _ _ rfl WL rv v2' y2 rfl _ rfl HUU2.out (by show y2.length + 2 ≤ _; omega) ?_)
          intro v3 w3 hu3
          obtain ⟨y3, hy3⟩ : ∃ y3, y3 = y2 ++ [61, 34] := ⟨_, rfl⟩
          have hu3' : Upd WL w3 rv v3 y3 := by rw [hy3]; exact hu3
          have HU3 : Hid (Upd WL w3 rv v3 y3) := hu3'
          have HY3 : Hid (y3 = y2 ++ [61, 34]) := hy3
          have hl3 : y3.length ≤ 8388612 := by rw [hy3, List.length_append]; simp; omega
          have hx3 : w3.cell? ⟨wr.heap.size, 1, none⟩ = some (.string p2) := hu3'.cell (by rw [HWL.out]; simp) HVL.out
          clear hu3 hu3' hy3 HUU2
          go_wp2_with fail
          refine (escF_any v3 y3 p2 true w3 HU3.out.1 (by omega)).mono ?_
          rintro e w4 ⟨v4, rfl, hu4⟩
          obtain ⟨y4, hy4⟩ : ∃ y4, y4 = y3 ++ esc true p2.data.toList := ⟨_, rfl⟩
          rw [← hy4] at hu4
          have HU4 : Hid (Upd WL w4 rv v4 y4) := HU3.out.trans hu4
          have HY4 : Hid (y4 = y3 ++ esc true p2.data.toList) := hy4
          have hl4 : y4.length ≤ 33554432 := by
            have := esc_len true p2.data.toList
            rw [size_list] at this
            rw [hy4, List.length_append]
            omega
          clear hu4 hy4 hx3 HU3
          go_wp2_with (at_builtin; refine app_oneF w4 rfl _ _ rfl WL rv v4 y4 rfl 34 rfl 34 rfl HU4.out (by omega) ?_)
          intro v5 w5 hu5
          obtain ⟨y5, hy5⟩ : ∃ y5, y5 = y4 ++ [34] := ⟨_, rfl⟩
          rw [← hy5] at hu5
          have HU5 : Hid (Upd WL w5 rv v5 y5) := hu5
          have HY5 : Hid (y5 = y4 ++ [34]) := hy5
          have hl5 : y5.length ≤ 33554433 := by rw [hy5, List.length_append]; simp; omega
          clear hu5 hy5 HU4
          have HE : Hid (y5 = (xs ++ name.data.toList) ++ written ls (k + 1)) := by
            show _ = _
            rw [← HF.out, HY5.out, HY4.out, HY3.out, HY2.out, HY1.out]
            simp
          have HU6 : Hid (Upd w2 w5 rb v5 y5) := HUW.out _ _ _ HU5.out
          clear HU5
          go_wp2
          go_roundw
          case rel => exact ⟨k + 1, _, by omega, by go_num, HE, HU6⟩
          case measure => simp [intOf]; omega
    · have hkn : k = ls.length := by omega
      obtain ⟨z0, hz0⟩ : ∃ z0, z0 = ys.length := ⟨_, rfl⟩
      have hyl : ys.length ≤ 4194304 := by
        have h1 := written_len ls k hk
        have h2 := tot_take ls k
        rw [HY.out, List.length_append, List.length_append, size_list]
        omega
      have hvs : value.size ≤ 4194304 := by omega
      have HYE : Hid (ys = (xs ++ name.data.toList) ++ labs ls) := by
        have := HY.out
        rw [hkn] at this
        exact this
      clear HY hkn hz0 z0 HNE HLB HUb
      go_wp2_with (at_builtin; refine app_oneF wr rfl _ _ rfl w2 rb u0 ys rfl 32 rfl 32 rfl HU.out (by omega) ?_)
      intro v1 w1 hu1
      obtain ⟨y1, hy1⟩ : ∃ y1, y1 = ys ++ [32] := ⟨_, rfl⟩
      rw [← hy1] at hu1
      have HU1 : Hid (Upd w2 w1 rb v1 y1) := hu1
      have HY1 : Hid (y1 = ys ++ [32]) := hy1
      have hl1 : y1.length ≤ 4194305 := by rw [hy1, List.length_append]; simp; omega
      clear hu1 hy1 HU
      go_wp2_with (at_builtin; refine app_strF w1 rfl _ _ rfl w2 rb v1 y1 rfl value rfl HU1.out (by omega) ?_)
      intro v2' w2' hu2
      obtain ⟨y2, hy2⟩ : ∃ y2, y2 = y1 ++ value.data.toList := ⟨_, rfl⟩
      rw [← hy2] at hu2
      have HUU2 : Hid (Upd w2 w2' rb v2' y2) := hu2
      have HY2 : Hid (y2 = y1 ++ value.data.toList) := hy2
      have hl2 : y2.length ≤ 8388610 := by rw [hy2, List.length_append, size_list]; omega
      clear hu2 hy2 HU1
      go_wp2_with (at_builtin; refine app_oneF w2' rfl _ _ rfl w2 rb v2' y2 rfl 10 rfl 10 rfl HUU2.out (by omega) ?_)
      intro v3 w3 hu3
      have HE : Hid (y2 ++ [10] = xs ++ line name ls value) := by
        show _ = _
        rw [HY2.out, HY1.out, HYE.out, line]
        simp
      have HU3 : Hid (Upd w w3 r0 v3 (xs ++ line name ls value)) := by
        rw [HE.out] at hu3
        exact HUZ.out _ _ _ hu3
      clear hu3 HUU2
      go_wp2
      go_ret
      exact ⟨_, rfl, HU3.out⟩

end Go.Proofs.Qxb6605486a
