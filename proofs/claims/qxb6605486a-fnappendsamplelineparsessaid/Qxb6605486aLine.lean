/-
  THE PLAIN TEXT OF A SAMPLE LINE: what appendSample writes, round by round, and where a reader stands. No Go in sight.
-/
import Derived.Test.Qxb6605486aPlain
namespace Go.Proofs.Qxb6605486a

/-- A label: its name and its value. -/
abbrev Lab := ByteArray × ByteArray

def lab0 : Lab := (ByteArray.empty, ByteArray.empty)

/-- One label as it is written. -/
def ent (p : Lab) : List UInt8 := p.1.data.toList ++ ([61, 34] ++ (esc true p.2.data.toList ++ [34]))

/-- The first k labels, commas between. -/
def mid (ls : List Lab) : Nat → List UInt8
  | 0 => []
  | k + 1 => mid ls k ++ ((if k = 0 then [] else [44]) ++ ent (ls.getD k lab0))

/-- What the loop has written behind k rounds. -/
def written (ls : List Lab) (k : Nat) : List UInt8 := if k = 0 then [] else 123 :: (mid ls k ++ if k = ls.length then [125] else [])

/-- The label set. -/
def labs (ls : List Lab) : List UInt8 := written ls ls.length

/-- The line. -/
def line (name : ByteArray) (ls : List Lab) (value : ByteArray) : List UInt8 := name.data.toList ++ (labs ls ++ ([32] ++ (value.data.toList ++ [10])))

/-- All the bytes of the labels. -/
def tot (ls : List Lab) : Nat := (ls.map fun p => p.1.size + p.2.size).sum

theorem tot_append (a b : List Lab) : tot (a ++ b) = tot a + tot b := by simp [tot]
theorem tot_step (ls : List Lab) (k : Nat) (h : k < ls.length) : tot (ls.take (k + 1)) = tot (ls.take k) + ((ls.getD k lab0).1.size + (ls.getD k lab0).2.size) := by
  rw [List.take_succ_eq_append_getElem h, tot_append]
  simp [tot, List.getD_eq_getElem?_getD, h]
theorem tot_take (ls : List Lab) (k : Nat) : tot (ls.take k) ≤ tot ls := by
  have h := tot_append (ls.take k) (ls.drop k)
  rw [List.take_append_drop] at h
  omega
theorem tot_at (ls : List Lab) (k : Nat) (h : k < ls.length) : (ls.getD k lab0).1.size + (ls.getD k lab0).2.size ≤ tot ls := by
  have h1 := tot_step ls k h
  have h2 := tot_take ls (k + 1)
  omega

theorem size_list (s : ByteArray) : s.data.toList.length = s.size := rfl

theorem ent_len (p : Lab) : (ent p).length ≤ 3 + p.1.size + 2 * p.2.size := by
  have h := esc_len true p.2.data.toList
  simp only [ent, List.length_append, List.length_cons, List.length_nil, size_list] at h ⊢
  omega

theorem mid_len (ls : List Lab) (k : Nat) (h : k ≤ ls.length) : (mid ls k).length ≤ 4 * k + 2 * tot (ls.take k) := by
  induction k with
  | zero => simp [mid]
  | succ k ih =>
    have h1 := ih (by omega)
    have h2 := tot_step ls k (by omega)
    have h3 := ent_len (ls.getD k lab0)
    rw [mid, List.length_append, List.length_append, h2]
    have h4 : (if k = 0 then ([] : List UInt8) else [44]).length ≤ 1 := by split <;> simp
    omega

theorem written_len (ls : List Lab) (k : Nat) (h : k ≤ ls.length) : (written ls k).length ≤ 4 * k + 2 * tot (ls.take k) + 2 := by
  have h1 := mid_len ls k h
  unfold written
  split
  · simp
  · rw [List.length_cons, List.length_append]
    have h4 : (if k = ls.length then ([125] : List UInt8) else []).length ≤ 1 := by split <;> simp
    omega

theorem line_len (name : ByteArray) (ls : List Lab) (value : ByteArray) : (line name ls value).length ≤ name.size + value.size + 4 * ls.length + 2 * tot ls + 4 := by
  have h := written_len ls ls.length (Nat.le_refl _)
  rw [List.take_length] at h
  simp only [line, labs, List.length_append, List.length_cons, List.length_nil, size_list]
  omega

/-- One round more, by its two tests. -/
theorem written_step (ls : List Lab) (k : Nat) (h : k < ls.length) (c : UInt8) (hc : c = if k = 0 then 123 else 44) (z : List UInt8) (hz : z = if k + 1 = ls.length then [125] else []) :
    written ls (k + 1) = written ls k ++ ([c] ++ ((ls.getD k lab0).1.data.toList ++ ([61, 34] ++ (esc true (ls.getD k lab0).2.data.toList ++ ([34] ++ z))))) := by
  subst hc; subst hz
  unfold written
  rw [if_neg (by omega), mid, ent]
  by_cases h0 : k = 0
  · subst h0
    simp [mid]
  · rw [if_neg h0, if_neg h0, if_neg (show ¬ k = ls.length by omega)]
    simp [h0]

end Go.Proofs.Qxb6605486a
