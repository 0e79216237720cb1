/-
  WHERE EACH PART OF A SAMPLE LINE STANDS in 'xs ++ line name ls value'.
-/
import Derived.Test.Qxb6605486aLine
import Derived.Test.Qxb6605486aMatch
namespace Go.Proofs.Qxb6605486a

theorem At.left {os a b : List UInt8} {i : Nat} (h : At os i (a ++ b)) : At os i a := by
  refine ⟨by have := h.1; rw [List.length_append] at this; omega, fun j hj => ?_⟩
  rw [h.2 j (by rw [List.length_append]; omega)]
  simp [List.getD_eq_getElem?_getD, List.getElem?_append_left hj]

theorem At.right {os a b : List UInt8} {i m : Nat} (h : At os i (a ++ b)) (hm : i + a.length = m) : At os m b := by
  subst hm
  refine ⟨by have := h.1; rw [List.length_append] at this; omega, fun j hj => ?_⟩
  have h2 := h.2 (a.length + j) (by rw [List.length_append]; omega)
  rw [← Nat.add_assoc] at h2
  rw [h2]
  have e : (a ++ b)[a.length + j]? = b[j]? := by rw [List.getElem?_append_right (by omega)]; congr 1; omega
  simp [List.getD_eq_getElem?_getD, e]

theorem mid_more (ls : List Lab) (k m : Nat) (h : k ≤ m) : ∃ r, mid ls m = mid ls k ++ r := by
  induction m with
  | zero => obtain rfl : k = 0 := by omega
            exact ⟨[], by simp⟩
  | succ m ih =>
    by_cases e : k = m + 1
    · subst e
      exact ⟨[], by simp⟩
    · obtain ⟨r, hr⟩ := ih (by omega)
      exact ⟨r ++ ((if m = 0 then [] else [44]) ++ ent (ls.getD m lab0)), by rw [mid, hr, List.append_assoc]⟩

/-- Where the reader stands behind the opening brace and k labels. -/
def place (xs : List UInt8) (name : ByteArray) (ls : List Lab) (k : Nat) : Nat := xs.length + name.size + 1 + (mid ls k).length

def sep (k : Nat) : List UInt8 := if k = 0 then [] else [44]

theorem place_succ (xs : List UInt8) (name : ByteArray) (ls : List Lab) (k : Nat) : place xs name ls (k + 1) = place xs name ls k + ((sep k).length + (ent (ls.getD k lab0)).length) := by
  unfold place sep
  rw [mid, List.length_append, List.length_append]
  omega

section
variable {xs os : List UInt8} {name value : ByteArray} {ls : List Lab}

theorem at_name (h : xs ++ line name ls value = os) : At os xs.length name.data.toList :=
  At.mk (post := labs ls ++ ([32] ++ (value.data.toList ++ [10]))) (by rw [← h, line]) rfl

theorem labs_some (h : 0 < ls.length) : labs ls = 123 :: (mid ls ls.length ++ [125]) := by
  unfold labs written
  rw [if_neg (by omega), if_pos rfl]

theorem labs_none (h : ls.length = 0) : labs ls = [] := by
  unfold labs written
  rw [if_pos h]

theorem at_open (h : xs ++ line name ls value = os) (hn : 0 < ls.length) : At os (xs.length + name.size) [123] :=
  At.mk (pre := xs ++ name.data.toList) (post := mid ls ls.length ++ ([125] ++ ([32] ++ (value.data.toList ++ [10])))) (by rw [← h, line, labs_some hn]; simp) (by rw [List.length_append, size_list])

theorem at_label (h : xs ++ line name ls value = os) (k : Nat) (hk : k < ls.length) : At os (place xs name ls k) (sep k ++ ent (ls.getD k lab0)) := by
  obtain ⟨r, hr⟩ := mid_more ls (k + 1) ls.length (by omega)
  refine At.mk (pre := xs ++ (name.data.toList ++ (123 :: mid ls k))) (post := r ++ ([125] ++ ([32] ++ (value.data.toList ++ [10])))) ?_ ?_
  · rw [← h, line, labs_some (by omega), hr, mid]
    simp [sep]
  · unfold place
    simp only [List.length_append, List.length_cons, size_list]
    omega

theorem at_close (h : xs ++ line name ls value = os) (hn : 0 < ls.length) : At os (place xs name ls ls.length) [125] := by
  refine At.mk (pre := xs ++ (name.data.toList ++ (123 :: mid ls ls.length))) (post := [32] ++ (value.data.toList ++ [10])) ?_ ?_
  · rw [← h, line, labs_some hn]
    simp
  · unfold place
    simp only [List.length_append, List.length_cons, size_list]
    omega

/-- What stands behind the labels: blank, value, line feed; and there the text ends. -/
theorem at_tail (h : xs ++ line name ls value = os) (t : Nat) (ht : xs.length + name.size + (labs ls).length = t) :
    At os t [32] ∧ At os (t + 1) value.data.toList ∧ At os (t + 1 + value.size) [10] ∧ t + 1 + value.size + 1 = os.length := by
  have h0 : At os t ([32] ++ (value.data.toList ++ [10])) := by
    refine At.mk (pre := xs ++ (name.data.toList ++ labs ls)) (post := []) ?_ ?_
    · rw [← h, line]
      simp
    · simp only [List.length_append, size_list]
      omega
  have h1 := h0.right (m := t + 1) rfl
  refine ⟨h0.left, h1.left, h1.right (by rw [size_list]), ?_⟩
  rw [← h, line]
  simp only [List.length_append, List.length_cons, List.length_nil, size_list]
  omega

theorem tail_some (hn : 0 < ls.length) : xs.length + name.size + (labs ls).length = place xs name ls ls.length + 1 := by
  rw [labs_some hn]
  unfold place
  simp only [List.length_cons, List.length_append, List.length_nil]
  omega

theorem tail_none (hn : ls.length = 0) : xs.length + name.size + (labs ls).length = xs.length + name.size := by
  rw [labs_none hn]
  rfl
end

end Go.Proofs.Qxb6605486a
