/-
  BYTES IN MEMORY, for the walks of this seat: a slice of bytes that the call owns ('Own'), one that is only read ('Rd'), and what one append makes of it.
-/
import Derived.Test.Qxb6605486aRows
import Derived.Test.Qxb6605486aPlain
import Derived.WalkKit
import Derived.ProofKit
import Derived.OpenShut
import Derived.Below
import Derived.Lib.AppendStr
import Derived.Laws.CopyOwn
import Derived.Deep.QuietTactic
import Derived.BigQuiet
import Derived.RegionTactic
import Derived.Outline
namespace Go.Proofs.Qxb6605486a
open Go.ChangeShapes Go.WideShapes Go.ChangeAt Go.RowKit

theorem Try.info5 : (Try.prog.info? 5).map (fun i => (i.zero, i.size, i.bytes)) = some (some (.int .u8 0), 1, 1) := by kernel_rfl

/-- Bytes as cells. -/
def bs (xs : List UInt8) : List Value := xs.map fun b => Value.int .u8 b.toNat
theorem bs_append (xs ys : List UInt8) : bs (xs ++ ys) = bs xs ++ bs ys := by simp [bs]
theorem bs_length (xs : List UInt8) : (bs xs).length = xs.length := by simp [bs]
theorem bs_one (xs : List UInt8) : ∀ u ∈ bs xs, u.oneCell' = true := by
  intro u hu
  simp only [bs, List.mem_map] at hu
  obtain ⟨b, _, rfl⟩ := hu
  rfl
theorem bs_at (xs : List UInt8) (j : Nat) (h : j < xs.length) : (bs xs)[j]? = some (.int .u8 ((xs.getD j 0).toNat : Int)) := by
  simp [bs, List.getD_eq_getElem?_getD, h]

/-- The value v is a slice over a row of the call's own (a block from B on) that holds the bytes ys; or it is nil and ys empty. -/
def Own (w : World) (B : Nat) (v : Value) (ys : List UInt8) : Prop := w.ownsRow B 5 1 v ys.length (bs ys) ∧ B ≤ w.heap.size

/-- The bytes xs lie at the address. -/
def Rd (w : World) (ao : Option Addr) (xs : List UInt8) : Prop :=
  xs = [] ∨ ∃ b off, ao = some ⟨b, off, none⟩ ∧ ∀ j, j < xs.length → w.cell? ⟨b, off + j, none⟩ = some (.int .u8 ((xs.getD j 0).toNat : Int))

theorem Own.shape {w : World} {B : Nat} {v : Value} {ys : List UInt8} (h : Own w B v ys) : ∃ ao cap, v = .slice ao ys.length cap ∧ Rd w ao ys ∧ ys.length ≤ cap ∧ cap ≤ maxLen ∧ (ao = none ∨ ∃ g, ao = some ⟨g, 0, none⟩) := by
  rcases h.1.2 with ⟨hv, hn⟩ | ⟨g, cap, cur, hv, hb, hg, hnc, hcm, hcs, htake⟩
  · obtain rfl := List.eq_nil_of_length_eq_zero hn
    exact ⟨none, 0, hv, .inl rfl, by simp, by simp [maxLen], .inl rfl⟩
  · refine ⟨some ⟨g, 0, none⟩, cap, hv, .inr ⟨g, 0, rfl, fun j hj => ?_⟩, hnc, hcm, .inr ⟨g, rfl⟩⟩
    have := (hv ▸ h.1).cellAt j (by omega)
    rw [Nat.zero_add, this, bs_at ys j hj]

theorem Own.below {w w' : World} {B : Nat} {v : Value} {ys : List UInt8} (h : Own w B v ys) (hb : Below w.heap.size w w') : Own w' B v ys := by
  refine ⟨⟨h.1.1, ?_⟩, Nat.le_trans h.2 hb.size⟩
  rcases h.1.2 with hn | ⟨g, cap, cur, hv, hB, hg, r⟩
  · exact .inl hn
  · exact .inr ⟨g, cap, cur, hv, hB, by rw [hb.block g (Array.getElem?_eq_some_iff.1 hg).1]; exact hg, r⟩

theorem Own.nil {w : World} {B : Nat} (h : B ≤ w.heap.size) : Own w B (.slice none 0 0) [] := ⟨World.ownsRow_nil _ _ _ _, h⟩

theorem Rd.below {w w' : World} {ao : Option Addr} {xs : List UInt8} (h : Rd w ao xs) (hb : Below w.heap.size w w') : Rd w' ao xs := by
  rcases h with h | ⟨b, off, ha, hc⟩
  · exact .inl h
  · refine .inr ⟨b, off, ha, fun j hj => ?_⟩
    rw [hb.cell (p := ⟨b, off + j, none⟩) (World.block_lt_of_cell? w _ (hc j hj))]
    exact hc j hj

theorem below_drewN (w : World) (n : Nat) : Below w.heap.size w (w.drewN n) := by
  refine ⟨?_, ?_, ?_, ?_, ?_⟩ <;> simp [World.drewN]

section
variable (w : World) {ops : Array Oper} {rest : List Oper} {o : Oper} {a : Act} {Q : Exit → Act → World → Prop}

/-- append(b, s...), s a string. -/
theorem app_str (hgd : o.guard = none) (sl x : Operand) (ho : o.op = .call { callee := .builtin .append, args := #[sl, x], argTypes := #[22, 9] }) (B : Nat) (v : Value) (ys : List UInt8) (hs : a.eval sl = v)
    (s : ByteArray) (hx : a.eval x = .string s) (hown : Own w B v ys) (hb : ys.length + s.size ≤ 140737488355328)
    (h : ∀ v' w', Own w' B v' (ys ++ s.data.toList) → Below B w w' → wpList Try.prog ops Q rest (a.put o.dst v') w') : wpList Try.prog ops Q (o :: rest) a w := by
  obtain ⟨i0, hi, hz0, hz1, hz2⟩ := info_parts Try.info5
  refine Lib.wpList_append_own_string w hgd sl x 22 9 ho B 5 i0 Try.underlying22 Try.underlying9 hi hz0 hz1 hz2 v ys.length (bs ys) hs hown.1 s hx (by unfold maxLen; omega) hb hown.2 ?_
  intro v' w' h1 h2 _
  refine h v' w' ⟨?_, Nat.le_trans hown.2 h2.size⟩ ((Below.refl B w).grown h2 hown.2 (fun k hk => (hown.1.lt k hk).1))
  have e : (ys ++ s.data.toList).length = ys.length + s.size := by rw [List.length_append, Array.length_toList]; rfl
  rw [e, bs_append]
  exact h1

/-- append(b, c), c one byte: the one-element slice that Go makes first lies in the world's last block. -/
theorem app_one (hgd : o.guard = none) (sl x : Operand) (ho : o.op = .call { callee := .builtin .append, args := #[sl, x], argTypes := #[22, 22] }) (B : Nat) (v : Value) (ys : List UInt8) (hs : a.eval sl = v)
    (ci : Int) (hx : a.eval x = .slice (some ⟨w.heap.size, 0, none⟩) 1 1) (c : UInt8) (hci : ci = (c.toNat : Int)) (hown : Own w B v ys) (hb : ys.length + 1 ≤ 140737488355328)
    (h : ∀ v' w', Own w' B v' (ys ++ [c]) → Below B w w' → wpList Try.prog ops Q rest (a.put o.dst v') w') : wpList Try.prog ops Q (o :: rest) a (w.alloc (.cells #[.int .u8 ci] 5)) := by
  obtain ⟨i0, hi, hz0, hz1, hz2⟩ := info_parts Try.info5
  subst hci
  refine wpList_append_own (w.alloc (.cells #[.int .u8 (c.toNat : Int)] 5)) hgd sl x 22 ho B 5 i0 (.int .u8 0) 1 1 Try.underlying22 hi hz0 hz1 hz2 rfl (by decide) v ys.length (bs ys) hs (hown.1.alloc _) ⟨w.heap.size, 0, none⟩ 1 1 (bs [c]) hx rfl ?_ (bs_one _)
    (by unfold maxLen; omega) (by omega) (by have := hown.2; simp; omega) ?_
  · intro j u hj
    match j, hj with
    | 0, hj => simp [bs] at hj; subst hj; simp [Addr.add]
  · intro v' w' h1 h2 _
    refine h v' w' ⟨?_, ?_⟩ ?_
    · rw [bs_append, List.length_append]
      exact h1
    · have := h2.size; have := hown.2; simp at *; omega
    · refine ((Below.refl B w).alloc hown.2 _).grown h2 (by have := hown.2; simp; omega) (fun k hk => (hown.1.lt k hk).1)
end

end Go.Proofs.Qxb6605486a
