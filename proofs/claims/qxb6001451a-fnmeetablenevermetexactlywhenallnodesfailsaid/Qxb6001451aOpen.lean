import Derived.Test.Qxb6001451aTree
import Derived.Lib.SmallJoins
import Derived.Below
namespace Go.Proofs.Qxb6001451a
open Go.RowKit Go.WideShapes

variable {H : Type} {enc : TypeId × Value → H} {W : World}

theorem arg_tree {r : Reach} {b0 : Nat} {v : Value} {d : DataW H} {p : List MemPlace} (hv : Value.okWide Try.prog W r b0 25 v) (h : DataW.Trod enc Try.prog W 0 (fun _ => true) true 25 v d p) :
    ∃ (m : Nat) (q : QT m) (c0 c1 c2 : Value), v = .agg #[c0, c1, c2] ∧ InM m W q c0 c1 c2 := by
  obtain ⟨x0, x1, x2, y0, y1, y2, n, rfl, _, _, f0, f1, f2⟩ := Joins.open_agg3 Try.underlying25 (by kernel_rfl) cellsOf25 hv h
  obtain ⟨t, e0, _, _⟩ := DataW.trod_int Try.underlying3 f0
  simp at e0
  subst e0
  obtain ⟨vs, _, va, vc, rfl, _⟩ := open_ints_fuel f1
  have e2 : ∃ a l c, x2 = .slice a l c := by
    rcases DataW.trod_slice Try.underlying23 f2 with ⟨h0, _⟩ | ⟨a, len, cap, _, _, _, _, hcs, _⟩
    · simp at h0; exact ⟨_, _, _, h0⟩
    · simp at hcs; exact ⟨_, _, _, hcs⟩
  obtain ⟨a, l, c, rfl⟩ := e2
  obtain ⟨fuel, hf⟩ := h
  have hc : (Value.agg #[.int .i64 t, .slice va vs.length vc, .slice a l c]).cells.toList = [.int .i64 t, .slice va vs.length vc, .slice a l c] := by simp [Value.cells]
  rw [hc] at hf
  obtain ⟨q, c0, c1, c2, e, hq⟩ := open_tree fuel fuel _ _ (by omega) hf
  simp at e
  obtain ⟨rfl, rfl, rfl⟩ := e
  exact ⟨fuel, q, _, _, _, rfl, hq⟩

theorem arg_ints {r : Reach} {b0 : Nat} {v : Value} {d : DataW H} {p : List MemPlace} (hv : Value.okWide Try.prog W r b0 22 v) (h : DataW.Trod enc Try.prog W 0 (fun _ => true) true 22 v d p) : ∃ zs, Ints W v zs := by
  obtain ⟨a, l, c, rfl⟩ := okWide_slice Try.underlying22 hv
  obtain ⟨fuel, hf⟩ := h
  exact open_ints_fuel (by simpa [Value.cells] using hf)
end Go.Proofs.Qxb6001451a
