/-
  APPENDING WITH OTHER MEMORY OF THE CALL's OWN BESIDE: 'Upd w0 w r0 v ys': since the world w0 at most the row r0 and new blocks have been written; the slice v holds the bytes ys and lies in the row r0 or in a new block. The walk of appendEscaped (19) once more, in these words.
-/
import Derived.Test.Qxb6605486aTop
import Derived.Maps.AppendAt
namespace Go.Proofs.Qxb6605486a
open Go.ChangeShapes Go.WideShapes Go.ChangeAt Go.RowKit

def Upd (w0 w : World) (r0 : Option Nat) (v : Value) (ys : List UInt8) : Prop :=
  w.ownsRow 0 5 1 v ys.length (bs ys) ∧ w0.grownBy w r0 ∧ (v.ownBlock = r0 ∨ ∃ g, v.ownBlock = some g ∧ w0.heap.size ≤ g)

theorem Upd.start {w : World} {v : Value} {ys : List UInt8} (h : w.ownsRow 0 5 1 v ys.length (bs ys)) : Upd w w v.ownBlock v ys := ⟨h, World.grownBy.refl _ _, .inl rfl⟩

/-- One step more. -/
theorem Upd.step {w0 w w1 : World} {r0 : Option Nat} {v v' : Value} {ys ys' : List UInt8} (h : Upd w0 w r0 v ys) (h1 : w1.ownsRow 0 5 1 v' ys'.length (bs ys')) (h2 : w.grownBy w1 v.ownBlock)
    (h3 : v'.ownBlock = v.ownBlock ∨ ∃ g, v'.ownBlock = some g ∧ w.heap.size ≤ g) : Upd w0 w1 r0 v' ys' := by
  obtain ⟨_, g, p⟩ := h
  refine ⟨h1, ⟨h2.os.trans g.os, h2.tape.trans g.tape, h2.output.trans g.output, Nat.le_trans g.size h2.size, fun k hk hne => ?_⟩, ?_⟩
  · rw [h2.block k (Nat.lt_of_lt_of_le hk g.size) ?_]
    · exact g.block k hk hne
    · rcases p with p | ⟨b, p, hb⟩
      · rw [p]; exact hne
      · rw [p]
        intro e
        obtain rfl := Option.some.inj e
        omega
  · rcases h3 with e | ⟨b, e, hb⟩
    · rw [e]; exact p
    · exact .inr ⟨b, e, Nat.le_trans g.size hb⟩

/-- What a callee did, behind what was done before. -/
theorem Upd.trans {w0 w w1 : World} {r0 : Option Nat} {v v' : Value} {ys ys' : List UInt8} (h : Upd w0 w r0 v ys) (k : Upd w w1 v.ownBlock v' ys') : Upd w0 w1 r0 v' ys' := h.step k.1 k.2.1 k.2.2

/-- A new block. -/
theorem Upd.alloc {w0 w : World} {r0 : Option Nat} {v : Value} {ys : List UInt8} (h : Upd w0 w r0 v ys) (o : Obj) : Upd w0 (w.alloc o) r0 v ys :=
  h.step (h.1.alloc o) (World.grownBy_alloc w o _) (.inl rfl)

theorem Upd.drewN {w0 w : World} {r0 : Option Nat} {v : Value} {ys : List UInt8} (h : Upd w0 w r0 v ys) (n : Nat) : Upd w0 (w.drewN n) r0 v ys := ⟨h.1, ⟨h.2.1.os, h.2.1.tape, h.2.1.output, h.2.1.size, h.2.1.block⟩, h.2.2⟩

/-- The same, told since a later world. -/
theorem Upd.since {w0 w : World} {r0 : Option Nat} {v : Value} {ys : List UInt8} (h : Upd w0 w r0 v ys) : Upd w w v.ownBlock v ys := Upd.start h.1

/-- A cell of memory that was there and is not the row's holds what it held. -/
theorem Upd.cell {w0 w : World} {r0 : Option Nat} {v : Value} {ys : List UInt8} (h : Upd w0 w r0 v ys) {b o : Nat} {x : Value} (hc : w0.cell? ⟨b, o, none⟩ = some x) (hb : some b ≠ r0) : w.cell? ⟨b, o, none⟩ = some x :=
  h.2.1.cell hc hb

theorem owns_zero {w : World} {B : Nat} {e : TypeId} {size : Nat} {v : Value} {n : Nat} {xs : List Value} (h : w.ownsRow B e size v n xs) : w.ownsRow 0 e size v n xs := by
  refine ⟨h.1, ?_⟩
  rcases h.2 with hn | ⟨g, cap, cur, hv, _, r⟩
  · exact .inl hn
  · exact .inr ⟨g, cap, cur, hv, Nat.zero_le _, r⟩

/-- Back to 'Own': the row began in a block from B on. -/
theorem Upd.own {w0 w : World} {r0 : Option Nat} {v : Value} {ys : List UInt8} {B : Nat} (h : Upd w0 w r0 v ys) (hB : B ≤ w0.heap.size) (hr : ∀ k, r0 = some k → B ≤ k) : Own w B v ys ∧ Below B w0 w := by
  obtain ⟨h1, g, p⟩ := h
  refine ⟨⟨⟨h1.1, ?_⟩, Nat.le_trans hB g.size⟩, (Below.refl B w0).grown g hB hr⟩
  rcases h1.2 with hn | ⟨b, cap, cur, hv, _, r⟩
  · exact .inl hn
  · refine .inr ⟨b, cap, cur, hv, ?_, r⟩
    rw [hv] at p
    simp only [Value.ownBlock] at p
    rcases p with p | ⟨b', p, hb⟩
    · exact hr b p.symm
    · obtain rfl := Option.some.inj p
      omega

section
variable (w : World) {ops : Array Oper} {rest : List Oper} {o : Oper} {a : Act} {Q : Exit → Act → World → Prop}

/-- append(b, s...): where the new slice lies. -/
theorem str_at (ty : TypeId) (v : Value) (ys : List UInt8) (s : ByteArray) (hown : w.ownsRow 0 5 1 v ys.length (bs ys)) (hb : ys.length + s.size ≤ 140737488355328) :
    ∃ v' w', (Builtin.append_ #[22, 9] ty #[v, .string s]).run Try.prog w = .ok v' w' ∧ w'.ownsRow 0 5 1 v' (ys ++ s.data.toList).length (bs (ys ++ s.data.toList)) ∧ w.grownBy w' v.ownBlock ∧ (v'.ownBlock = v.ownBlock ∨ ∃ g, v'.ownBlock = some g ∧ w.heap.size ≤ g) := by
  obtain ⟨i0, hi, hz0, hz1, hz2⟩ := info_parts Try.info5
  obtain ⟨v', w', hr, h1, h2, h4⟩ := Lib.run_append_own_string (P := Try.prog) w 0 22 9 ty 5 i0 Try.underlying22 Try.underlying9 hi hz0 hz1 hz2 v ys.length (bs ys) hown s (by unfold maxLen; omega) hb (Nat.zero_le _)
  have e : (ys ++ s.data.toList).length = ys.length + s.size := by rw [List.length_append, Array.length_toList]; rfl
  refine ⟨v', w', hr, by rw [e, bs_append]; exact h1, h2, ?_⟩
  have hxl : (bs ys).length = ys.length := bs_length ys
  rcases hown.2 with ⟨rfl, hn⟩ | ⟨g, cap, cur, rfl, hbg, hg, hnc, hcm, hcs, htake⟩
  · by_cases hs : s.size = 0
    · have := h4.2 ⟨rfl, hs⟩
      rw [this]
      exact .inl rfl
    · have hr2 := run_append_nil_string (P := Try.prog) w 22 9 ty 5 i0 (.int .u8 0) Try.underlying22 Try.underlying9 hi hz0 s (by omega) (by omega) (by rw [hz2]; omega)
      rw [hr2] at hr
      injection hr with hv _
      rw [← hv]
      exact .inr ⟨w.heap.size, rfl, Nat.le_refl _⟩
  · by_cases hroom : ys.length + s.size ≤ cap
    · have hcs' : cur.size = cap := by simpa using hcs
      have hr2 := Lib.run_append_room_string (P := Try.prog) w 22 9 ty 5 i0 Try.underlying22 Try.underlying9 hi hz1 g ys.length cap cur hg s hroom (by omega)
      rw [hr2] at hr
      injection hr with hv _
      rw [← hv]
      exact .inl rfl
    · have hr2 := Lib.run_append_grow_string (P := Try.prog) w 22 9 ty 5 i0 (.int .u8 0) Try.underlying22 Try.underlying9 hi hz0 ⟨g, 0, none⟩ ys.length cap (bs ys) (by rw [hz1, hxl]; omega) (hown.cells (g := g) rfl) s (by omega) (by omega) (by rw [hz2]; exact growslice_fits (by omega) (by omega))
      rw [hr2] at hr
      injection hr with hv _
      rw [← hv]
      exact .inr ⟨w.heap.size, rfl, Nat.le_refl _⟩

theorem app_strF (hgd : o.guard = none) (sl x : Operand) (ho : o.op = .call { callee := .builtin .append, args := #[sl, x], argTypes := #[22, 9] }) (w0 : World) (r0 : Option Nat) (v : Value) (ys : List UInt8) (hs : a.eval sl = v)
    (s : ByteArray) (hx : a.eval x = .string s) (hown : Upd w0 w r0 v ys) (hb : ys.length + s.size ≤ 140737488355328)
    (h : ∀ v' w', Upd w0 w' r0 v' (ys ++ s.data.toList) → wpList Try.prog ops Q rest (a.put o.dst v') w') : wpList Try.prog ops Q (o :: rest) a w := by
  refine wpList_plain hgd fun K hK => ?_
  obtain ⟨v', w', hr, h2, h3, h4⟩ := str_at w o.type v ys s hown.1 hb
  unfold Oper.wp execOp
  simp only [ho, resolve, invoke, builtin, Sem.run_bind, Sem.run_pure, Result.andThen_ok, List.map_toArray, List.map_cons, List.map_nil, hs, hx, hr]
  exact hK _ _ (h v' w' (hown.step h2 h3 h4))

theorem app_oneF (hgd : o.guard = none) (sl x : Operand) (ho : o.op = .call { callee := .builtin .append, args := #[sl, x], argTypes := #[22, 22] }) (w0 : World) (r0 : Option Nat) (v : Value) (ys : List UInt8) (hs : a.eval sl = v)
    (ci : Int) (hx : a.eval x = .slice (some ⟨w.heap.size, 0, none⟩) 1 1) (c : UInt8) (hci : ci = (c.toNat : Int)) (hown : Upd w0 w r0 v ys) (hb : ys.length + 1 ≤ 140737488355328)
    (h : ∀ v' w', Upd w0 w' r0 v' (ys ++ [c]) → wpList Try.prog ops Q rest (a.put o.dst v') w') : wpList Try.prog ops Q (o :: rest) a (w.alloc (.cells #[.int .u8 ci] 5)) := by
  obtain ⟨i0, hi, hz0, hz1, hz2⟩ := info_parts Try.info5
  subst hci
  have hu := hown.alloc (.cells #[.int .u8 (c.toNat : Int)] 5)
  refine wpList_append_own_at (w.alloc (.cells #[.int .u8 (c.toNat : Int)] 5)) hgd sl x 22 ho 0 5 i0 (.int .u8 0) 1 1 Try.underlying22 hi hz0 hz1 hz2 rfl (by decide) v ys.length (bs ys) hs hu.1 ⟨w.heap.size, 0, none⟩ 1 1 (bs [c]) hx rfl ?_ (bs_one _)
    (by unfold maxLen; omega) (by omega) (Nat.zero_le _) ?_
  · exact cell_one_new w _ _
  · intro v' w' h1 h2 _ h4
    refine h v' w' (hu.step (by rw [bs_append, List.length_append]; exact h1) h2 ?_)
    rcases h4 with h4 | h4
    · exact .inl h4
    · exact .inr ⟨_, h4, Nat.le_refl _⟩
end

set_option maxHeartbeats 1000000 in
theorem escF_any (v : Value) (xs : List UInt8) (s : ByteArray) (q : Bool) (w : World) (hown : w.ownsRow 0 5 1 v xs.length (bs xs)) (hlen : xs.length + 2 * s.size ≤ 70368744177664) :
    Calls Try.prog 19 #[v, .string s, .bool q] w fun e w' => ∃ v', e = .returned v' ∧ Upd w w' v.ownBlock v' (xs ++ esc q s.data.toList) := by
  obtain ⟨r0, hr0⟩ : ∃ r0, r0 = v.ownBlock := ⟨_, rfl⟩
  have HU0 : Hid (Upd w w r0 v xs) := by rw [hr0]; exact Upd.start hown
  rw [← hr0]
  clear hown hr0
  go_enter Try.func19, Try.ntmps19
  go_wp2
  go_loopw [0, 11] (fun v i wr => ∃ (k : Nat) (ys : List UInt8), k ≤ s.size ∧ i = .int .i64 k ∧ Hid (ys = xs ++ esc q (s.data.toList.take k)) ∧ Hid (Upd w wr r0 v ys)) (fun _ i _ => s.size - (intOf i).toNat)
  case atStart => exact ⟨0, xs, Nat.zero_le _, rfl, show xs = _ by simp [esc], HU0⟩
  case round =>
    obtain ⟨k, ys, hk, rfl, HY, HO⟩ := hrel
    clear HU0
    have hyl : ys.length ≤ xs.length + 2 * k := by
      have := esc_len q (s.data.toList.take k)
      rw [HY.out, List.length_append]
      have h2 : (s.data.toList.take k).length ≤ k := List.length_take_le _ _
      omega
    by_cases hlt : k < s.size
    · have hn : ∀ r, esc1 q s[k] = r → ys ++ r = xs ++ esc q (s.data.toList.take (k + 1)) := fun r hr => esc_next hlt HY.out hr
      have HN : Hid (∀ r, esc1 q s[k] = r → ys ++ r = xs ++ esc q (s.data.toList.take (k + 1))) := hn
      clear hn HY
      by_cases h1 : s[k].toNat = 92
      · have HE : Hid (ys ++ [92, 92] = xs ++ esc q (s.data.toList.take (k + 1))) := HN.out _ (esc1_bs q _ h1)
        clear HN
        go_wp2_with (at_builtin; refine app_strF _ rfl _ _ rfl w r0 u0 ys rfl _ rfl HO.out (by show ys.length + 2 ≤ _; omega) ?_)
        intro v' w1 ho1
        have HO1 : Hid (Upd w w1 r0 v' (ys ++ [92, 92])) := ho1
        clear ho1 HO
        go_wp2
        go_roundw
        case rel => exact ⟨k + 1, _, by omega, by go_num, HE, HO1⟩
        case measure => simp [intOf]; omega
      · have h1' : ((s[k].toNat : Int) == 92) = false := by simp; omega
        by_cases h2 : s[k].toNat = 10
        · have HE : Hid (ys ++ [92, 110] = xs ++ esc q (s.data.toList.take (k + 1))) := HN.out _ (esc1_lf q _ h2)
          clear HN
          go_wp2_with (at_builtin; refine app_strF _ rfl _ _ rfl w r0 u0 ys rfl _ rfl HO.out (by show ys.length + 2 ≤ _; omega) ?_)
          intro v' w1 ho1
          have HO1 : Hid (Upd w w1 r0 v' (ys ++ [92, 110])) := ho1
          clear ho1 HO
          go_wp2
          go_roundw
          case rel => exact ⟨k + 1, _, by omega, by go_num, HE, HO1⟩
          case measure => simp [intOf]; omega
        · have h2' : ((s[k].toNat : Int) == 10) = false := by simp; omega
          by_cases h3 : s[k].toNat = 34
          · cases q with
            | true =>
              have HE : Hid (ys ++ [92, 34] = xs ++ esc true (s.data.toList.take (k + 1))) := HN.out _ (esc1_dq _ h3)
              clear HN
              go_wp2_with (at_builtin; refine app_strF _ rfl _ _ rfl w r0 u0 ys rfl _ rfl HO.out (by show ys.length + 2 ≤ _; omega) ?_)
              intro v' w1 ho1
              have HO1 : Hid (Upd w w1 r0 v' (ys ++ [92, 34])) := ho1
              clear ho1 HO
              go_wp2
              go_roundw
              case rel => exact ⟨k + 1, _, by omega, by go_num, HE, HO1⟩
              case measure => simp [intOf]; omega
            | false =>
              have HE : Hid (ys ++ [s[k]] = xs ++ esc false (s.data.toList.take (k + 1))) := HN.out _ (esc1_raw false _ h1 h2 (by simp))
              clear HN
              have hc : (34 : Int) = (s[k].toNat : Int) := by omega
              have HC : Hid ((34 : Int) = (s[k].toNat : Int)) := hc
              clear hc
              go_wp2_with (at_builtin; refine app_oneF _ rfl _ _ rfl w r0 u0 ys rfl _ rfl s[k] HC.out HO.out (by omega) ?_)
              intro v' w1 ho1
              have HO1 : Hid (Upd w w1 r0 v' (ys ++ [s[k]])) := ho1
              clear ho1 HO
              go_wp2
              go_roundw
              case rel => exact ⟨k + 1, _, by omega, by go_num, HE, HO1⟩
              case measure => simp [intOf]; omega
          · have h3' : ((s[k].toNat : Int) == 34) = false := by simp; omega
            have HE : Hid (ys ++ [s[k]] = xs ++ esc q (s.data.toList.take (k + 1))) := HN.out _ (esc1_raw q _ h1 h2 (fun h => h3 h.1))
            clear HN
            go_wp2_with (at_builtin; refine app_oneF _ rfl _ _ rfl w r0 u0 ys rfl _ rfl s[k] rfl HO.out (by omega) ?_)
            intro v' w1 ho1
            have HO1 : Hid (Upd w w1 r0 v' (ys ++ [s[k]])) := ho1
            clear ho1 HO
            go_wp2
            go_roundw
            case rel => exact ⟨k + 1, _, by omega, by go_num, HE, HO1⟩
            case measure => simp [intOf]; omega
    · have HY' : Hid (ys = xs ++ esc q s.data.toList) := by
        have := HY.out
        rw [List.take_of_length_le (by simp; omega)] at this
        exact this
      clear HY
      go_wp2
      go_ret
      exact ⟨_, rfl, by rw [← HY'.out]; exact HO.out⟩

end Go.Proofs.Qxb6605486a
