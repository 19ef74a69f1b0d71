import Derived.Test.Qxb6001451aPlain
namespace Go.Proofs.Qxb6001451a
open Go.RowKit

set_option maxHeartbeats 400000 in
theorem inBits_any (v : Value) (ws : List Nat) (z : Nat) (w : World) (hv : Words w v ws) (hz : z / 64 < ws.length) (hz2 : z < 65536) :
    Calls Try.prog 24 #[v, .int .i64 (z : Int)] w fun e w' => e = .returned (.bool (memb ws z)) ∧ ∃ m, w' = w.drewN m := by
  obtain ⟨h1, h2, b, off, cap, rfl, h4⟩ := hv
  have hc := h4 (z / 64) hz
  have hx := h1 _ (List.getElem_mem hz)
  obtain ⟨x, Hx⟩ := name_it ws[z / 64]
  rw [← Hx.out] at hc hx
  have HR : Hid ((bits .and .u64 (x : Int) ((2 : Int) ^ (z % 64)) != 0) = memb ws z) := by
    show _ = _
    have h5 := and_bit x z hx
    rw [wrap_bit] at h5
    have e : ((2 : Int) ^ (z % 64)) = ((2 ^ (z % 64) : Nat) : Int) := by simp
    rw [e, h5, Hx.out]
    unfold memb
    simp [hz]
  have hzi : (z : Int) / 64 < (ws.length : Int) := by omega
  have hzi0 : 0 ≤ (z : Int) / 64 := by omega
  have hq2 : (z : Int).tdiv 64 = (z : Int) / 64 := by rw [Int.tdiv_eq_ediv_of_nonneg (by omega)]
  have hq1 : IntKind.i64.wrap ((z : Int) / 64) = (z : Int) / 64 := by rw [IntKind.wrap_i64]; omega
  have hq3 : ((z : Int) / 64).toNat = z / 64 := by omega
  clear h1 h4 Hx
  go_enter Try.func24, Try.ntmps24
  go_wp2_with fail
  go_quiet ((go_at_call 20; exact Calls.quiet_of_same (bit_any _ _ hz2)))
  go_wp2_with fail
  go_ret
  exact ⟨ret_bool HR.out, _, rfl⟩

theorem WAt.other {w : World} {b g o : Nat} {ws : List Nat} (h : WAt w b ws) (hne : g ≠ b) (v : Value) : WAt (w.setCell ⟨g, o, none⟩ v) b ws :=
  ⟨h.lt, h.len, fun i hi => (World.cell?_setCell_other _ _ _ _ (by intro e; cases e; exact hne rfl)).trans (h.cell i hi), fun i hi => (World.frozen?_setCell _ _ _ _).trans (h.frozen i hi)⟩
theorem WAt.drewN {w : World} {b : Nat} {ws : List Nat} (h : WAt w b ws) (m : Nat) : WAt (w.drewN m) b ws := ⟨h.lt, h.len, h.cell, h.frozen⟩
theorem Box.set {w wr : World} {c0 c1 c2 : Value} (h : Box w c0 c1 c2 wr) {g o : Nat} (hg : w.heap.size < g) (v : Value) : Box w c0 c1 c2 (wr.setCell ⟨g, o, none⟩ v) :=
  ⟨h.below.setCell (p := ⟨g, o, none⟩) (Nat.le_of_lt hg) v, by simpa [World.setCell] using h.size,
    (World.cell?_setCell_other _ _ _ _ (by intro e; cases e; omega)).trans h.b0, (World.cell?_setCell_other _ _ _ _ (by intro e; cases e; omega)).trans h.b1, (World.cell?_setCell_other _ _ _ _ (by intro e; cases e; omega)).trans h.b2⟩
theorem Box.drewN {w wr : World} {c0 c1 c2 : Value} (h : Box w c0 c1 c2 wr) (m : Nat) : Box w c0 c1 c2 (wr.drewN m) := h.step (below_drewN (Below.refl _ _) m)
theorem Box.drew {w wr : World} {c0 c1 c2 : Value} (h : Box w c0 c1 c2 wr) : Box w c0 c1 c2 wr.drew := h.step (Below.refl _ _).drew

/-- A bit more in the set. -/
theorem memb_or (ws : List Nat) (z0 : Nat) (h : z0 / 64 < ws.length) (z : Nat) : memb (ws.set (z0 / 64) (ws[z0 / 64] ||| 2 ^ (z0 % 64))) z = (memb ws z || decide (z = z0)) := by
  unfold memb
  by_cases e : z / 64 = z0 / 64
  · rw [e]
    simp only [List.getD, List.getElem?_set_self h, List.getElem?_eq_getElem h, Option.getD_some]
    rw [Nat.testBit_or, Nat.testBit_two_pow]
    congr 1
    rw [decide_eq_decide]
    omega
  · have e2 : decide (z = z0) = false := by rw [decide_eq_false_iff_not]; intro g; exact e (by rw [g])
    simp only [List.getD, List.getElem?_set_ne (Ne.symm e), e2, Bool.or_false]

/-- What '^w[j]' adds lies outside w. -/
theorem memb_not (ws xs : List Nat) (k : Nat) (h : k < xs.length) (hw : k < ws.length) (hlt : ws[k] < 18446744073709551616) (z : Nat) (hz : memb ws z = true) :
    memb (xs.set k (xs[k] ||| (18446744073709551615 - ws[k]))) z = memb xs z := by
  unfold memb at *
  by_cases e : z / 64 = k
  · subst e
    simp only [List.getD, List.getElem?_set_self h, List.getElem?_eq_getElem h, List.getElem?_eq_getElem hw, Option.getD_some] at *
    rw [Nat.testBit_or]
    have h1 : (18446744073709551615 - ws[z / 64]).testBit (z % 64) = false := by
      have h2 := Nat.testBit_two_pow_sub_succ (n := 64) hlt (z % 64)
      rw [show (2 : Nat) ^ 64 - (ws[z / 64] + 1) = 18446744073709551615 - ws[z / 64] by omega] at h2
      rw [h2, hz]; simp
    rw [h1, Bool.or_false]
  · simp only [List.getD, List.getElem?_set_ne (Ne.symm e)]

/-- 'x |= ^y' on a uint64. -/
theorem or_not (x y : Nat) (hx : x < 18446744073709551616) (hy : y < 18446744073709551616) : x ||| (18446744073709551615 - y) < 18446744073709551616 :=
  Nat.or_lt_two_pow (n := 64) hx (by omega)

theorem xor_max (y : Nat) (hy : y < 18446744073709551616) : 18446744073709551615 ^^^ y = 18446744073709551615 - y := by
  apply Nat.eq_of_testBit_eq
  intro i
  have h2 := Nat.testBit_two_pow_sub_succ (n := 64) hy i
  rw [show (2 : Nat) ^ 64 - (y + 1) = 18446744073709551615 - y by omega] at h2
  rw [h2, Nat.testBit_xor, show (18446744073709551615 : Nat) = 2 ^ 64 - 1 by omega, Nat.testBit_two_pow_sub_one]
  by_cases hi : i < 64
  · simp [hi]
  · have : y.testBit i = false := Nat.testBit_lt_two_pow (Nat.lt_of_lt_of_le hy (by
      have h3 : 2 ^ 64 ≤ 2 ^ i := Nat.pow_le_pow_right (by omega) (by omega)
      omega))
    simp [hi, this]

theorem or_not_bits (x y : Nat) (hx : x < 18446744073709551616) (hy : y < 18446744073709551616) :
    bits .or .u64 (x : Int) (bits .xor .u64 IntKind.u64.max (y : Int)) = ((x ||| (18446744073709551615 - y) : Nat) : Int) := by
  have e : IntKind.u64.max = ((18446744073709551615 : Nat) : Int) := by decide
  rw [e, u64_xor_nat _ _ (by omega) hy, xor_max y hy, u64_or_nat _ _ hx (by omega)]

/-- 's[j] |= ^w[j]'. -/
theorem WAt.not_at {w : World} {b : Nat} {ws : List Nat} (h : WAt w b ws) {j x y : Nat} (hj : j < ws.length) (hx : x < 18446744073709551616) (hy : y < 18446744073709551616) :
    WAt (w.setCell ⟨b, j, none⟩ (.int .u64 (bits .or .u64 (x : Int) (bits .xor .u64 IntKind.u64.max (y : Int))))).drew b (ws.set j (x ||| (18446744073709551615 - y))) := by
  rw [or_not_bits x y hx hy]
  exact (h.set j _ hj (or_not x y hx hy)).drew
end Go.Proofs.Qxb6001451a
