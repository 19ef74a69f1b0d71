import Derived.Test.Qxb6001451aCounts
import Derived.Laws.BitsAllLaws
namespace Go.Proofs.Qxb6001451a
open Go.RowKit

/-- A set of nodes in memory: its words. -/
def Words (w : World) (v : Value) (ws : List Nat) : Prop :=
  (∀ x ∈ ws, x < 18446744073709551616) ∧ ws.length ≤ 2000 ∧ ∃ b off cap, v = .slice (some ⟨b, off, none⟩) ws.length cap ∧
    ∀ i, (h : i < ws.length) → w.cell? ⟨b, off + i, none⟩ = some (.int .u64 (ws[i] : Int))

def memb (ws : List Nat) (z : Nat) : Bool := (ws.getD (z / 64) 0).testBit (z % 64)

theorem Words.below {w w' : World} {v : Value} {ws : List Nat} (h : Words w v ws) (hb : Below w.heap.size w w') : Words w' v ws := by
  obtain ⟨h1, h2, b, off, cap, h3, h4⟩ := h
  exact ⟨h1, h2, b, off, cap, h3, fun i hi => (hb.cell (p := ⟨b, off + i, none⟩) (World.block_lt_of_cell? w _ (h4 i hi))).trans (h4 i hi)⟩

theorem pow_lt64 (k : Nat) (h : k < 64) : 2 ^ k < 18446744073709551616 := by
  have : 2 ^ k ≤ 2 ^ 63 := Nat.pow_le_pow_right (by omega) (by omega)
  omega

theorem wrap_bit (z : Nat) : IntKind.u64.wrap (2 ^ (z % 64)) = ((2 ^ (z % 64) : Nat) : Int) := by
  have h := pow_lt64 (z % 64) (Nat.mod_lt _ (by omega))
  have e : ((2 : Int) ^ (z % 64)) = ((2 ^ (z % 64) : Nat) : Int) := by simp
  rw [e, IntKind.wrap_u64]
  clear e
  generalize 2 ^ (z % 64) = p at *
  omega

theorem and_bit (x z : Nat) (hx : x < 18446744073709551616) : (bits .and .u64 (x : Int) (IntKind.u64.wrap (2 ^ (z % 64))) != 0) = x.testBit (z % 64) := by
  have h := pow_lt64 (z % 64) (Nat.mod_lt _ (by omega))
  rw [wrap_bit, u64_and_nat x _ hx h, nat_bit, Nat.testBit_eq_decide_div_mod_eq]
  have hp : 0 < 2 ^ (z % 64) := Nat.two_pow_pos _
  have h2 : x / 2 ^ (z % 64) % 2 < 2 := Nat.mod_lt _ (by omega)
  generalize x / 2 ^ (z % 64) % 2 = y at *
  generalize 2 ^ (z % 64) = p at *
  rcases (show y = 0 ∨ y = 1 by omega) with e | e
  · subst e; simp
  · subst e; simp; omega

theorem ret_bool {a b : Bool} (h : a = b) : Ending.returned (.bool a) = .returned (.bool b) := by rw [h]

set_option maxHeartbeats 400000 in
theorem has_any (v : Value) (ws : List Nat) (z : Nat) (w : World) (hv : Words w v ws) (hz : z / 64 < ws.length) (hz2 : z < 65536) :
    Calls Try.prog 36 #[v, .int .i64 (z : Int)] w fun e w' => e = .returned (.bool (memb ws z)) ∧ w' = w := by
  obtain ⟨h1, h2, b, off, cap, rfl, h4⟩ := hv
  have hc := h4 (z / 64) hz
  have hx := h1 _ (List.getElem_mem hz)
  obtain ⟨x, Hx⟩ := name_it ws[z / 64]
  rw [← Hx.out] at hc hx
  clear h1 h4
  go_enter Try.func36, Try.ntmps36
  go_wp2
  go_ret
  refine ⟨ret_bool ?_, rfl⟩
  rw [and_bit x z hx, Hx.out]
  unfold memb
  simp [hz]

theorem bit_any (z : Nat) (w : World) (hz2 : z < 65536) :
    Calls Try.prog 20 #[.int .i64 (z : Int)] w fun e w' => e = .returned (.int .u64 ((2 ^ (z % 64) : Nat) : Int)) ∧ w' = w := by
  go_enter Try.func20, Try.ntmps20
  go_wp2
  go_ret
  exact ⟨ret_int (wrap_bit z), rfl⟩
end Go.Proofs.Qxb6001451a
