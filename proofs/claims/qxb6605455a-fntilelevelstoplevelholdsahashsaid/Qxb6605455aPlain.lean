/-
  THE PLAIN MATHEMATICS of the five laws over attestree's tile arithmetic: no Go in sight.
-/
namespace Go.Proofs.Qxb6605455a

/-- How many hashes tile level l holds over s records. -/
def lh (s l : Int) : Int := s / 256 ^ l.toNat

/-- How many tile levels the tree over s records has (s below 2^64). -/
def tl (s : Int) : Int :=
  if s < 1 then 0 else if s < 256 then 1 else if s < 65536 then 2 else if s < 16777216 then 3 else if s < 4294967296 then 4
  else if s < 1099511627776 then 5 else if s < 281474976710656 then 6 else if s < 72057594037927936 then 7 else 8

/-- The width of tile n of level l over s records. -/
def tw (s l n : Int) : Int :=
  if n < lh s l / 256 then 256 else if n = lh s l / 256 then lh s l % 256 else 0

theorem lh_nonneg (s l : Int) (h : 0 ≤ s) : 0 ≤ lh s l :=
  Int.ediv_nonneg h (Int.le_of_lt (Int.pow_pos (by decide)))

theorem lh_le (s l : Int) (h : 0 ≤ s) : lh s l ≤ s := Int.ediv_le_self _ h

theorem lh_low (s l : Int) (h : l ≤ 0) : lh s l = s := by
  have : l.toNat = 0 := by omega
  simp [lh, this]

theorem lh_succ (s l : Int) (h : 0 ≤ l) : lh s (l + 1) = lh s l / 256 := by
  have e : (l + 1).toNat = l.toNat + 1 := by omega
  rw [lh, lh, e, Int.pow_succ, Int.ediv_ediv_of_nonneg (Int.le_of_lt (Int.pow_pos (by decide)))]

theorem lh_zero_up (s l : Int) (k : Nat) (h0 : 0 ≤ l) (h : lh s l = 0) : lh s (l + k) = 0 := by
  induction k with
  | zero => simpa using h
  | succ k ih =>
    have e : l + ((k + 1 : Nat) : Int) = (l + k) + 1 := by omega
    rw [e, lh_succ _ _ (by omega), ih]
    rfl

theorem lh_zero_of_le (s i l : Int) (h0 : 0 ≤ i) (h : i ≤ l) (hz : lh s i = 0) : lh s l = 0 := by
  have e : l = i + ((l - i).toNat : Int) := by omega
  rw [e]
  exact lh_zero_up s i _ h0 hz

theorem lh_digits (s : Int) : lh s 0 = s ∧ lh s 1 = s / 256 ∧ lh s 2 = s / 65536 ∧ lh s 3 = s / 16777216 ∧ lh s 4 = s / 4294967296 ∧ lh s 5 = s / 1099511627776
    ∧ lh s 6 = s / 281474976710656 ∧ lh s 7 = s / 72057594037927936 ∧ lh s 8 = s / 18446744073709551616 := by
  have h0 := lh_low s 0 (Int.le_refl _)
  have h1 := lh_succ s 0 (by decide)
  have h2 := lh_succ s 1 (by decide)
  have h3 := lh_succ s 2 (by decide)
  have h4 := lh_succ s 3 (by decide)
  have h5 := lh_succ s 4 (by decide)
  have h6 := lh_succ s 5 (by decide)
  have h7 := lh_succ s 6 (by decide)
  have h8 := lh_succ s 7 (by decide)
  simp only [Int.zero_add, Int.reduceAdd] at h1 h2 h3 h4 h5 h6 h7 h8
  omega

/-- The shift that the Go text makes is the division by a power of 256. -/
theorem shr_lh (s l : Int) (s0 : 0 ≤ s) (s1 : s ≤ 18446744073709551615) (h0 : 0 ≤ l) : s / 2 ^ min (l * 8).toNat 64 = lh s l := by
  have p8 : ∀ n : Nat, (256 : Int) ^ n = 2 ^ (8 * n) := fun n => by rw [Int.pow_mul]; rfl
  by_cases h : l ≤ 8
  · have e : min (l * 8).toNat 64 = 8 * l.toNat := by omega
    rw [e, ← p8, lh]
  · have e : min (l * 8).toNat 64 = 64 := by omega
    rw [e, lh_zero_of_le s 8 l (by decide) (by omega) (by have := lh_digits s; omega)]
    have : (2 : Int) ^ 64 = 18446744073709551616 := by decide
    rw [this]
    omega

/-! ### tl: how the loop of TileLevels finds it -/
theorem tl_bd (s : Int) : 0 ≤ tl s ∧ tl s ≤ 8 := by
  unfold tl
  repeat' split
  all_goals omega

theorem tl_steps (s : Int) : (0 < tl s ↔ 1 ≤ s) ∧ (1 < tl s ↔ 256 ≤ s) ∧ (2 < tl s ↔ 65536 ≤ s) ∧ (3 < tl s ↔ 16777216 ≤ s) ∧ (4 < tl s ↔ 4294967296 ≤ s) ∧ (5 < tl s ↔ 1099511627776 ≤ s)
    ∧ (6 < tl s ↔ 281474976710656 ≤ s) ∧ (7 < tl s ↔ 72057594037927936 ≤ s) := by
  unfold tl
  repeat' split
  all_goals omega

/-- Below tl a level holds a hash; at tl it holds none. -/
theorem tl_at (s k : Int) (s0 : 0 ≤ s) (s1 : s ≤ 18446744073709551615) (h0 : 0 ≤ k) (h1 : k ≤ tl s) : (0 < lh s k ↔ k < tl s) := by
  obtain ⟨d0, d1, d2, d3, d4, d5, d6, d7, d8⟩ := lh_digits s
  obtain ⟨t0, t1, t2, t3, t4, t5, t6, t7⟩ := tl_steps s
  have b := tl_bd s
  have hk : k = 0 ∨ k = 1 ∨ k = 2 ∨ k = 3 ∨ k = 4 ∨ k = 5 ∨ k = 6 ∨ k = 7 ∨ k = 8 := by omega
  rcases hk with rfl | rfl | rfl | rfl | rfl | rfl | rfl | rfl | rfl
  · rw [d0, t0]; omega
  · rw [d1, t1]; omega
  · rw [d2, t2]; omega
  · rw [d3, t3]; omega
  · rw [d4, t4]; omega
  · rw [d5, t5]; omega
  · rw [d6, t6]; omega
  · rw [d7, t7]; omega
  · rw [d8]; omega

/-! ### the laws -/
theorem grows (s : Int) (h0 : 0 < s) (h1 : s < 72057594037927936) : tl (s * 256) = tl s + 1 := by
  unfold tl
  repeat' split
  all_goals omega

theorem tw_bd (s l n : Int) (s0 : 0 ≤ s) : 0 ≤ tw s l n ∧ tw s l n ≤ 256 := by
  have := lh_nonneg s l s0
  unfold tw
  repeat' split
  all_goals omega

theorem tw_zero (s n : Int) (hs : s = 0) (hn : 0 ≤ n) (l : Int) : tw s l n = 0 := by
  subst hs
  have : lh 0 l = 0 := by simp [lh]
  unfold tw
  rw [this]
  repeat' split
  all_goals omega

theorem top_one (s : Int) (s0 : 0 < s) (s1 : s ≤ 18446744073709551615) : 1 ≤ tl s ∧ tl s ≤ 8 ∧ 1 ≤ tw s (tl s - 1) 0 ∧ tw s (tl s) 0 = 0 := by
  have b := tl_bd s
  have a0 := tl_at s 0 (by omega) s1 (by omega) b.1
  rw [lh_low s 0 (Int.le_refl _)] at a0
  have h1 : 0 < tl s := a0.1 s0
  have a1 := (tl_at s (tl s - 1) (by omega) s1 (by omega) (by omega)).2 (by omega)
  have a2 := tl_at s (tl s) (by omega) s1 (by omega) (by omega)
  have a3 := lh_nonneg s (tl s) (by omega)
  have a4 : lh s (tl s) = 0 := by omega
  refine ⟨by omega, b.2, ?_, ?_⟩
  · unfold tw
    repeat' split
    all_goals omega
  · unfold tw
    rw [a4]
    repeat' split
    all_goals omega

/-- The clamp of the first law. -/
def clamp (s l n : Int) : Int :=
  if n < 72057594037927936 then (if n * 256 < lh s l then (if 256 ≤ lh s l - n * 256 then 256 else lh s l - n * 256) else 0) else 0

theorem tw_clamp (s l n : Int) (s0 : 0 ≤ s) (s1 : s ≤ 18446744073709551615) (_n0 : 0 ≤ n) : tw s l n = clamp s l n := by
  have h0 := lh_nonneg s l s0
  have h1 := lh_le s l s0
  unfold tw clamp
  repeat' split
  all_goals omega

/-- The cross clause of the second law. -/
theorem cross (s l n : Int) (s0 : 0 ≤ s) (l0 : 0 ≤ l) (_n0 : 0 ≤ n) : (n % 256 < tw s (l + 1) (n / 256)) ↔ tw s l n = 256 := by
  have h0 := lh_nonneg s l s0
  unfold tw
  rw [lh_succ s l l0]
  repeat' split
  all_goals omega

theorem lastTile (s : Int) (_s0 : 0 < s) : tw s 0 ((s - 1) / 256) = (s - 1) % 256 + 1 := by
  unfold tw
  rw [lh_low s 0 (Int.le_refl _)]
  repeat' split
  all_goals omega

/-! ### bit lengths -/
/-- After b halvings. -/
def hv (s : Int) (b : Nat) : Int := s / 2 ^ b

theorem hv_succ (s : Int) (b : Nat) : hv s (b + 1) = hv s b / 2 := by
  rw [hv, hv, Int.pow_succ, Int.ediv_ediv_of_nonneg (Int.le_of_lt (Int.pow_pos (by decide)))]

theorem hv_nonneg (s : Int) (b : Nat) (h : 0 ≤ s) : 0 ≤ hv s b :=
  Int.ediv_nonneg h (Int.le_of_lt (Int.pow_pos (by decide)))

theorem hv_pos_iff (s : Int) (b : Nat) (h : 0 ≤ s) : 0 < hv s b ↔ (2 : Int) ^ b ≤ s := by
  have hp : (0 : Int) < 2 ^ b := Int.pow_pos (by decide)
  have hn := hv_nonneg s b h
  constructor
  · intro hv0
    have := Int.mul_ediv_self_le (x := s) (k := 2 ^ b) (by omega)
    have h2 : (1 : Int) * 2 ^ b ≤ hv s b * 2 ^ b := Int.mul_le_mul_of_nonneg_right (by omega) (by omega)
    unfold hv at h2
    rw [Int.mul_comm] at this
    omega
  · intro hle
    have := Int.le_ediv_of_mul_le hp (show 1 * 2 ^ b ≤ s by omega)
    unfold hv
    omega

theorem pow_mono (a b : Nat) (h : a ≤ b) : (2 : Int) ^ a ≤ 2 ^ b := by
  have h1 := Int.ofNat_le.2 (Nat.pow_le_pow_right (n := 2) (by decide) h)
  rw [Int.natCast_pow, Int.natCast_pow] at h1
  exact h1

/-- b binary digits: s lies below 2^b, and not below 2^(b-1). -/
theorem digits (s : Int) (b : Nat) (s0 : 0 ≤ s) (s1 : s ≤ 18446744073709551615) (hz : hv s b = 0) (hp : ∀ c, c < b → 0 < hv s c) : ((b : Int) + 7) / 8 = tl s := by
  have hlt : ∀ c : Nat, (2 : Int) ^ c ≤ s ↔ c < b := by
    intro c
    constructor
    · intro h
      have hn : ¬ (2 : Int) ^ b ≤ s := fun h' => by have := (hv_pos_iff s b s0).2 h'; omega
      apply Nat.lt_of_not_le
      intro hbc
      exact hn (Int.le_trans (pow_mono b c hbc) h)
    · intro h
      exact (hv_pos_iff s c s0).1 (hp c h)
  have g0 := hlt 0
  have g1 := hlt 8
  have g2 := hlt 16
  have g3 := hlt 24
  have g4 := hlt 32
  have g5 := hlt 40
  have g6 := hlt 48
  have g7 := hlt 56
  have g8 := hlt 64
  simp only [Int.reducePow, Int.pow_zero] at g0 g1 g2 g3 g4 g5 g6 g7 g8
  unfold tl
  repeat' split
  all_goals omega

/-- No more than 64 binary digits. -/
theorem digits_le (s : Int) (b : Nat) (s0 : 0 ≤ s) (s1 : s ≤ 18446744073709551615) (h : 0 < hv s b) : b < 64 := by
  have h1 := (hv_pos_iff s b s0).1 h
  apply Nat.lt_of_not_le
  intro hb
  have h2 := pow_mono 64 b hb
  simp only [Int.reducePow] at h2
  omega

end Go.Proofs.Qxb6605455a
