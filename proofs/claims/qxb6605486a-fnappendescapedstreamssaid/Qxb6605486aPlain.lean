/-
  THE PLAIN MATHEMATICS of the laws over crosskey's text exposition: escaping, and what a decoder meets. No Go in sight.
-/
namespace Go.Proofs.Qxb6605486a

/-- How one byte is written. -/
def esc1 (q : Bool) (c : UInt8) : List UInt8 :=
  if c.toNat = 92 then [92, 92] else if c.toNat = 10 then [92, 110] else if c.toNat = 34 ∧ q = true then [92, 34] else [c]

/-- How a text is written. -/
def esc (q : Bool) (l : List UInt8) : List UInt8 := l.flatMap (esc1 q)

theorem esc_append (q : Bool) (a b : List UInt8) : esc q (a ++ b) = esc q a ++ esc q b := by simp [esc]
theorem esc_nil (q : Bool) : esc q [] = [] := rfl
theorem esc_one (q : Bool) (c : UInt8) : esc q [c] = esc1 q c := by simp [esc]

theorem esc1_len (q : Bool) (c : UInt8) : 1 ≤ (esc1 q c).length ∧ (esc1 q c).length ≤ 2 := by
  unfold esc1
  repeat' split
  all_goals simp

theorem esc_len (q : Bool) (l : List UInt8) : l.length ≤ (esc q l).length ∧ (esc q l).length ≤ 2 * l.length := by
  induction l with
  | nil => simp [esc]
  | cons c l ih =>
    have h1 := esc1_len q c
    have e : esc q (c :: l) = esc1 q c ++ esc q l := by simp [esc]
    rw [e, List.length_append, List.length_cons]
    omega

theorem esc1_noLF (q : Bool) (c x : UInt8) (h : x ∈ esc1 q c) : x.toNat ≠ 10 := by
  unfold esc1 at h
  split at h
  · simp at h; subst h; decide
  · split at h
    · simp at h; rcases h with rfl | rfl <;> decide
    · split at h
      · simp at h; rcases h with rfl | rfl <;> decide
      · simp at h; subst h; assumption

theorem esc_noLF (q : Bool) (l : List UInt8) (x : UInt8) (h : x ∈ esc q l) : x.toNat ≠ 10 := by
  simp only [esc, List.mem_flatMap] at h
  obtain ⟨c, _, hx⟩ := h
  exact esc1_noLF q c x hx

/-- Where byte k's spelling begins. -/
def pos (q : Bool) (l : List UInt8) (k : Nat) : Nat := (esc q (l.take k)).length

theorem pos_zero (q : Bool) (l : List UInt8) : pos q l 0 = 0 := by simp [pos, esc]
theorem pos_all (q : Bool) (l : List UInt8) : pos q l l.length = (esc q l).length := by simp [pos]

theorem take_snoc (l : List UInt8) (k : Nat) (h : k < l.length) : l.take (k + 1) = l.take k ++ [l[k]] := List.take_succ_eq_append_getElem h

theorem esc_step (q : Bool) (l : List UInt8) (k : Nat) (h : k < l.length) : esc q (l.take (k + 1)) = esc q (l.take k) ++ esc1 q l[k] := by
  rw [take_snoc l k h, esc_append, esc_one]

theorem pos_succ (q : Bool) (l : List UInt8) (k : Nat) (h : k < l.length) : pos q l (k + 1) = pos q l k + (esc1 q l[k]).length := by
  rw [pos, esc_step q l k h, List.length_append, pos]

theorem esc_cut (q : Bool) (l : List UInt8) (k : Nat) (h : k < l.length) : esc q l = esc q (l.take k) ++ (esc1 q l[k] ++ esc q (l.drop (k + 1))) := by
  have e : l = l.take k ++ ([l[k]] ++ l.drop (k + 1)) := by
    rw [List.singleton_append, List.getElem_cons_drop, List.take_append_drop]
  have h1 := congrArg (esc q) e
  rw [esc_append, esc_append, esc_one] at h1
  exact h1

theorem pos_lt (q : Bool) (l : List UInt8) (k : Nat) (h : k < l.length) : pos q l k + (esc1 q l[k]).length ≤ (esc q l).length := by
  have e := congrArg List.length (esc_cut q l k h)
  simp only [List.length_append] at e
  unfold pos
  omega

theorem pos_le (q : Bool) (l : List UInt8) (k : Nat) (h : k ≤ l.length) : pos q l k ≤ (esc q l).length := by
  by_cases e : k = l.length
  · rw [e, pos_all]; exact Nat.le_refl _
  · have := pos_lt q l k (by omega); omega

/-- What a decoder meets at byte k's place: byte k's spelling. -/
theorem esc_at (q : Bool) (l pre post : List UInt8) (k j : Nat) (h : k < l.length) (hj : j < (esc1 q l[k]).length) :
    (pre ++ (esc q l ++ post)).getD (pre.length + (pos q l k + j)) 0 = (esc1 q l[k]).getD j 0 := by
  have e1 : (pre ++ (esc q l ++ post))[pre.length + (pos q l k + j)]? = (esc q l ++ post)[pos q l k + j]? := by
    rw [List.getElem?_append_right (by omega)]
    congr 1
    omega
  have hlt := pos_lt q l k h
  have e2 : (esc q l ++ post)[pos q l k + j]? = (esc q l)[pos q l k + j]? := List.getElem?_append_left (by omega)
  have e3 : (esc q l)[pos q l k + j]? = (esc1 q l[k] ++ esc q (l.drop (k + 1)))[j]? := by
    refine (congrArg (fun m : List UInt8 => m[pos q l k + j]?) (esc_cut q l k h)).trans ?_
    show (esc q (l.take k) ++ (esc1 q l[k] ++ esc q (l.drop (k + 1))))[pos q l k + j]? = _
    rw [List.getElem?_append_right (by unfold pos; omega)]
    congr 1
    unfold pos
    omega
  have e4 : (esc1 q l[k] ++ esc q (l.drop (k + 1)))[j]? = (esc1 q l[k])[j]? := List.getElem?_append_left hj
  simp only [List.getD_eq_getElem?_getD]
  rw [e1, e2, e3, e4]

/-- The byte behind an escaped text. -/
theorem esc_behind (q : Bool) (l pre post : List UInt8) : (pre ++ (esc q l ++ post)).getD (pre.length + pos q l l.length) 0 = post.getD 0 0 := by
  rw [pos_all]
  simp only [List.getD_eq_getElem?_getD]
  rw [List.getElem?_append_right (by omega), List.getElem?_append_right (by omega)]
  congr 2
  omega

/-! ### the four ways of a byte -/
theorem esc1_bs (q : Bool) (c : UInt8) (h : c.toNat = 92) : esc1 q c = [92, 92] := by simp [esc1, h]
theorem esc1_lf (q : Bool) (c : UInt8) (h : c.toNat = 10) : esc1 q c = [92, 110] := by simp [esc1, h]
theorem esc1_dq (c : UInt8) (h : c.toNat = 34) : esc1 true c = [92, 34] := by simp [esc1, h]
theorem esc1_raw (q : Bool) (c : UInt8) (h1 : c.toNat ≠ 92) (h2 : c.toNat ≠ 10) (h3 : ¬ (c.toNat = 34 ∧ q = true)) : esc1 q c = [c] := by simp [esc1, h1, h2, h3]

/-- Where byte k's spelling begins in the whole text. -/
def posIn (q : Bool) (l pre : List UInt8) (k : Nat) : Nat := pre.length + pos q l k

theorem meets (q : Bool) (l pre post : List UInt8) (k : Nat) (h : k < l.length) (r : List UInt8) (hr : esc1 q l[k] = r) :
    (∀ j, j < r.length → (pre ++ (esc q l ++ post)).getD (posIn q l pre k + j) 0 = r.getD j 0) ∧ posIn q l pre k + r.length ≤ (pre ++ (esc q l ++ post)).length ∧ posIn q l pre (k + 1) = posIn q l pre k + r.length := by
  subst hr
  refine ⟨fun j hj => ?_, ?_, ?_⟩
  · have := esc_at q l pre post k j h hj
    unfold posIn
    rw [Nat.add_assoc]
    exact this
  · have := pos_lt q l k h
    simp only [List.length_append, posIn]
    omega
  · have := pos_succ q l k h
    unfold posIn
    omega

theorem meets_end (q : Bool) (l pre : List UInt8) : posIn q l pre l.length = pre.length + (esc q l).length := by
  unfold posIn
  rw [pos_all]

theorem meets_start (q : Bool) (l pre : List UInt8) : posIn q l pre 0 = pre.length := by
  unfold posIn
  rw [pos_zero]
  omega

end Go.Proofs.Qxb6605486a
