/-
  WHAT THE LAWS' OWN WALKS SHARE: the arguments as bytes, the callees' contracts with the shapes of what they hand back, the bounds on lengths.
-/
import Derived.Test.Qxb6605486aRead
namespace Go.Proofs.Qxb6605486a
open Go.ChangeShapes Go.WideShapes Go.ChangeAt Go.RowKit

theorem u8_of_wf {n : Int} (h : (Lit.int .u8 n).wf = true) : ((UInt8.ofNat n.toNat).toNat : Int) = n := by
  have hb := bounds_u8 h
  rw [UInt8.toNat_ofNat_of_lt' (by show n.toNat < 256; omega)]
  omega

/-- A slice of bytes that came in, as bytes. -/
theorem rd_of_row {w : World} {a : Option Addr} {len cap : Nat} {zs : List Int}
    (h : (a = none ∧ len = 0 ∧ cap = 0 ∧ zs = []) ∨ ∃ x, a = some x ∧ len ≤ cap ∧ cap ≤ maxLen ∧ zs.length = cap ∧ (∀ i, i < zs.length → w.cell? (x.add i) = some (.int .u8 (zs.getD i 0))) ∧ ∀ n ∈ zs, (Lit.int .u8 n).wf = true) :
    ∃ xs : List UInt8, xs.length = len ∧ Rd w a xs := by
  rcases h with ⟨rfl, rfl, rfl, rfl⟩ | ⟨x, rfl, hlc, hcm, hz, hcell, hwf⟩
  · exact ⟨[], rfl, .inl rfl⟩
  · by_cases h0 : len = 0
    · exact ⟨[], by simp [h0], .inl rfl⟩
    · obtain ⟨b, off, spot⟩ := x
      have hspot : spot = none := by simpa [Addr.add] using World.cell?_spot (hcell 0 (by omega))
      subst hspot
      refine ⟨(zs.take len).map fun n => UInt8.ofNat n.toNat, by simp; omega, .inr ⟨b, off, rfl, fun j hj => ?_⟩⟩
      have hj' : j < len := by simp at hj; omega
      have hc := hcell j (by omega)
      rw [Addr.add_lit] at hc
      rw [hc]
      have hjz : j < zs.length := by omega
      have e : ((List.map (fun n => UInt8.ofNat n.toNat) (zs.take len)).getD j 0) = UInt8.ofNat zs[j].toNat := by
        simp [List.getD_eq_getElem?_getD, hj', hjz]
      rw [e, u8_of_wf (hwf _ (List.getElem_mem hjz))]
      simp [List.getD_eq_getElem?_getD, hjz]

/-- Clone, with the shape of what comes back. -/
theorem clone_sh (B : Nat) (ao : Option Addr) (xs : List UInt8) (cap : Nat) (w : World) (hB : B ≤ w.heap.size) (hr : Rd w ao xs) (hlen : xs.length ≤ 1048576) :
    Calls Try.prog 7 #[.slice ao xs.length cap] w fun e w' => ∃ ao' cap', e = .returned (.slice ao' xs.length cap') ∧ Hid (Own w' B (.slice ao' xs.length cap') xs) ∧ Hid (Rd w' ao' xs) ∧ Hid (Below B w w') := by
  refine (clone_any B ao xs cap w hB hr hlen).mono ?_
  rintro e w' ⟨v', rfl, ho, hb⟩
  obtain ⟨ao', cap', rfl, hr', _, _, _⟩ := ho.shape
  exact ⟨ao', cap', rfl, ho, hr', hb⟩

/-- Escaping, with the shape of what comes back. -/
theorem zzesc_sh (B : Nat) (v : Value) (xs : List UInt8) (s : ByteArray) (q : Bool) (w : World) (hown : Own w B v xs) (hlen : xs.length + 2 * s.size ≤ 70368744177664) (ys : List UInt8) (hy : xs ++ esc q s.data.toList = ys) :
    Calls Try.prog 8 #[v, .string s, .bool q] w fun e w' => ∃ ao' cap', e = .returned (.slice ao' ys.length cap') ∧ Hid (Own w' B (.slice ao' ys.length cap') ys) ∧ Hid (Rd w' ao' ys) ∧ Hid (Below B w w') ∧ ys.length ≤ cap' ∧ cap' ≤ maxLen ∧ Hid (ao' = none ∨ ∃ g, ao' = some ⟨g, 0, none⟩) := by
  subst hy
  refine (zzesc_any B v xs s q w hown hlen).mono ?_
  rintro e w' ⟨v', rfl, ho, hb⟩
  obtain ⟨ao', cap', rfl, hr', h1, h2, h3⟩ := ho.shape
  exact ⟨ao', cap', rfl, ho, hr', hb, h1, h2, h3⟩

/-- HasPrefix, the whole under a name of its own. -/
theorem prefix_sh (ao bo : Option Addr) (c c' : Nat) (p r ys : List UInt8) (w : World) (hy : p ++ r = ys) (hn : ys.length ≤ 4194304) (hx : Rd w ao ys) (hp : Rd w bo p) :
    Calls Try.prog 9 #[.slice ao ys.length c, .slice bo p.length c'] w fun e w' => e = .returned (.bool true) ∧ ∃ q, w' = w.drewN q := by
  subst hy
  exact prefix_any ao bo c c' p r w hn hx hp

/-- StrictDecodeEquals, the escaped text's length under a name of its own. -/
theorem strict_sh (ao : Option Addr) (n c : Nat) (s : ByteArray) (q : Bool) (w : World) (hs : s.size ≤ 1048576) (hn : (esc q s.data.toList).length = n) (hc : Rd w ao (esc q s.data.toList)) :
    Calls Try.prog 10 #[.slice ao n c, .string s, .bool q] w fun e w' => e = .returned (.bool true) ∧ w = w' := by
  subst hn
  exact strict_any ao c s q w hs hc

/-- What lies behind the first p bytes. -/
theorem Rd.behind {w : World} {g : Nat} {p r : List UInt8} (h : Rd w (some ⟨g, 0, none⟩) (p ++ r)) : Rd w (some ⟨g, p.length, none⟩) r := by
  rcases h with h | ⟨b, off, ha, hc⟩
  · exact .inl (List.append_eq_nil_iff.1 h).2
  · simp only [Option.some.injEq, Addr.mk.injEq, and_true] at ha
    obtain ⟨rfl, rfl⟩ := ha
    refine .inr ⟨g, p.length, rfl, fun j hj => ?_⟩
    have := hc (p.length + j) (by simp; omega)
    rw [Nat.zero_add] at this
    rw [this]
    have e : (p ++ r)[p.length + j]? = r[j]? := by rw [List.getElem?_append_right (by omega)]; congr 1; omega
    simp [List.getD_eq_getElem?_getD, e]

theorem rd_tail {w : World} {ad : Option Addr} {xs r ys : List UInt8} (hy : xs ++ r = ys) (h : Rd w ad ys) (hs : ad = none ∨ ∃ g, ad = some ⟨g, 0, none⟩) : Rd w (Option.map (fun x => x.add xs.length) ad) r := by
  subst hy
  rcases hs with rfl | ⟨g, rfl⟩
  · rcases h with h | ⟨b, off, ha, _⟩
    · exact .inl (List.append_eq_nil_iff.1 h).2
    · cases ha
  · have := Rd.behind h
    simpa [Addr.add_lit] using this

theorem Rd.drewN {w : World} {ao : Option Addr} {xs : List UInt8} (h : Rd w ao xs) (n : Nat) : Rd (w.drewN n) ao xs := h

/-! ### the bounds on lengths -/
theorem b6_yes (ao : Option Addr) (n c : Nat) (s : ByteArray) (q : Bool) (w : World) (h : n + s.size ≤ 1048576) :
    Calls Try.prog 6 #[.slice ao n c, .string s, .bool q] w fun e w' => e = .returned (.bool true) ∧ w = w' := by
  go_enter Try.func6, Try.ntmps6
  go_wp2
  go_ret
  exact ⟨rfl, rfl⟩

theorem b6_no (ao : Option Addr) (n c : Nat) (s : ByteArray) (q : Bool) (w : World) (h : 1048576 < n + s.size) :
    Calls Try.prog 6 #[.slice ao n c, .string s, .bool q] w fun e w' => e = .returned (.bool false) ∧ w = w' := by
  by_cases h1 : 1048576 < n
  · go_enter Try.func6, Try.ntmps6
    go_wp2
    go_ret
    exact ⟨rfl, rfl⟩
  · by_cases h2 : 1048576 < s.size
    · go_enter Try.func6, Try.ntmps6
      go_wp2
      go_ret
      exact ⟨rfl, rfl⟩
    · go_enter Try.func6, Try.ntmps6
      go_wp2
      go_ret
      exact ⟨rfl, rfl⟩

theorem b11_yes (ao : Option Addr) (n c : Nat) (s t : ByteArray) (q : Bool) (w : World) (h : n + s.size + t.size ≤ 1048576) :
    Calls Try.prog 11 #[.slice ao n c, .string s, .string t, .bool q] w fun e w' => e = .returned (.bool true) ∧ w = w' := by
  go_enter Try.func11, Try.ntmps11
  go_wp2
  go_ret
  exact ⟨rfl, rfl⟩

theorem b11_no (ao : Option Addr) (n c : Nat) (s t : ByteArray) (q : Bool) (w : World) (h : 1048576 < n + s.size + t.size) :
    Calls Try.prog 11 #[.slice ao n c, .string s, .string t, .bool q] w fun e w' => e = .returned (.bool false) ∧ w = w' := by
  by_cases h1 : 1048576 < n
  · go_enter Try.func11, Try.ntmps11
    go_wp2
    go_ret
    exact ⟨rfl, rfl⟩
  · by_cases h2 : 1048576 < s.size
    · go_enter Try.func11, Try.ntmps11
      go_wp2
      go_ret
      exact ⟨rfl, rfl⟩
    · by_cases h3 : 1048576 < n + s.size
      · go_enter Try.func11, Try.ntmps11
        go_wp2
        go_ret
        exact ⟨rfl, rfl⟩
      · by_cases h4 : 1048576 < t.size
        · go_enter Try.func11, Try.ntmps11
          go_wp2
          go_ret
          exact ⟨rfl, rfl⟩
        · go_enter Try.func11, Try.ntmps11
          go_wp2
          go_ret
          exact ⟨rfl, rfl⟩

end Go.Proofs.Qxb6605486a
