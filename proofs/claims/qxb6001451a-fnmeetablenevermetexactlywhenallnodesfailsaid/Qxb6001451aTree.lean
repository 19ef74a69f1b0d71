/-
  SEAT b6001451a: quorum sets as trees of bounded depth, how they lie in memory, and how a reading of an argument gives one.
-/
import Derived.Test.Qxb6001451aRows
import Derived.WalkKit
import Derived.WalkSpells
import Derived.WalkLawsBesides
import Derived.ProofKit
import Derived.BigQuiet
import Derived.Deep.RegionWith
namespace Go.Proofs.Qxb6001451a
open Go.RowKit

/-- A quorum set of depth at most n: its threshold, its validators, its inner sets. -/
def QT : Nat → Type
  | 0 => Empty
  | n + 1 => Int × List Int × List (QT n)

def thr {n : Nat} (q : QT (n + 1)) : Int := Prod.fst (α := Int) (β := List Int × List (QT n)) q
def vals {n : Nat} (q : QT (n + 1)) : List Int := Prod.fst (α := List Int) (β := List (QT n)) (Prod.snd (α := Int) (β := List Int × List (QT n)) q)
def inn {n : Nat} (q : QT (n + 1)) : List (QT n) := Prod.snd (α := List Int) (β := List (QT n)) (Prod.snd (α := Int) (β := List Int × List (QT n)) q)
def mkQ {n : Nat} (t : Int) (vs : List Int) (qs : List (QT n)) : QT (n + 1) := ((t, vs, qs) : Int × List Int × List (QT n))
theorem thr_mk {n : Nat} (t : Int) (vs : List Int) (qs : List (QT n)) : thr (mkQ t vs qs) = t := rfl
theorem vals_mk {n : Nat} (t : Int) (vs : List Int) (qs : List (QT n)) : vals (mkQ t vs qs) = vs := rfl
theorem inn_mk {n : Nat} (t : Int) (vs : List Int) (qs : List (QT n)) : inn (mkQ t vs qs) = qs := rfl

/-- A slice of ints: its elements. -/
def Ints (w : World) (v : Value) (zs : List Int) : Prop :=
  (∀ z ∈ zs, (Lit.int .i64 z).wf = true) ∧ ∃ a cap, v = .slice a zs.length cap ∧ zs.length ≤ cap ∧ cap ≤ maxLen ∧ (a = none → cap = 0) ∧
    ∀ i, (h : i < zs.length) → ∃ b off, a = some ⟨b, off, none⟩ ∧ w.cell? ⟨b, off + i, none⟩ = some (.int .i64 zs[i])

/-- The three cells of a QSet. -/
def InM : (n : Nat) → World → QT n → Value → Value → Value → Prop
  | 0, _, _, _, _, _ => False
  | n + 1, w, q, c0, c1, c2 => c0 = .int .i64 (thr q) ∧ (Lit.int .i64 (thr q)).wf = true ∧ Ints w c1 (vals q) ∧
      ∃ a cap, c2 = .slice a (inn q).length cap ∧ (inn q).length ≤ cap ∧ cap ≤ maxLen ∧ (a = none → cap = 0) ∧
        ∀ i, (h : i < (inn q).length) → ∃ b off d0 d1 d2, a = some ⟨b, off, none⟩ ∧ w.cell? ⟨b, off + i * 3, none⟩ = some d0 ∧ w.cell? ⟨b, off + i * 3 + 1, none⟩ = some d1 ∧ w.cell? ⟨b, off + i * 3 + 2, none⟩ = some d2 ∧ InM n w (inn q)[i] d0 d1 d2

theorem Ints.below {w w' : World} {v : Value} {zs : List Int} (h : Ints w v zs) (hb : Below w.heap.size w w') : Ints w' v zs := by
  obtain ⟨h1, a, cap, h2, h3, h4, h5, h6⟩ := h
  refine ⟨h1, a, cap, h2, h3, h4, h5, fun i hi => ?_⟩
  obtain ⟨b, off, e, hc⟩ := h6 i hi
  exact ⟨b, off, e, (hb.cell (p := ⟨b, off + i, none⟩) (World.block_lt_of_cell? w _ hc)).trans hc⟩

theorem InM.below : ∀ (n : Nat) {w w' : World} {q : QT n} {c0 c1 c2 : Value} (_ : InM n w q c0 c1 c2) (_ : Below w.heap.size w w'), InM n w' q c0 c1 c2
  | 0, _, _, _, _, _, _, h, _ => h
  | n + 1, w, w', q, c0, c1, c2, h, hb => by
    obtain ⟨h1, h2, h3, a, cap, h4, h5, h6, h7, h8⟩ := h
    refine ⟨h1, h2, h3.below hb, a, cap, h4, h5, h6, h7, fun i hi => ?_⟩
    obtain ⟨b, off, d0, d1, d2, e, k0, k1, k2, k3⟩ := h8 i hi
    have hlt := World.block_lt_of_cell? w _ k0
    exact ⟨b, off, d0, d1, d2, e, (hb.cell (p := ⟨b, off + i * 3, none⟩) hlt).trans k0, (hb.cell (p := ⟨b, off + i * 3 + 1, none⟩) hlt).trans k1, (hb.cell (p := ⟨b, off + i * 3 + 2, none⟩) hlt).trans k2, InM.below n k3 hb⟩

/-! ### OPENING -/
theorem plain_addr {w : World} {a : Addr} {v : Value} (h : w.cell? a = some v) : ∃ b off, a = ⟨b, off, none⟩ := by
  obtain ⟨b, off, spot⟩ := a
  cases spot with
  | none => exact ⟨b, off, rfl⟩
  | some s =>
    exfalso
    unfold World.cell? at h
    split at h <;> simp at h

theorem add_plain (b off i : Nat) : (⟨b, off, none⟩ : Addr).add i = ⟨b, off + i, none⟩ := by unfold Addr.add; split <;> simp_all

theorem cells1 {w : World} {a : Addr} {cs : List Value} (h : w.cells? 0 a 1 = some cs) : ∃ d, cs = [d] ∧ w.cell? a = some d := by
  unfold World.cells? at h
  simp only [Nat.zero_le, if_true] at h
  cases hc : w.cell? (a.add 0) with
  | none => simp [List.range_succ, hc] at h
  | some d =>
    simp [List.range_succ, hc] at h
    exact ⟨d, h.symm, hc⟩

theorem cells3 {w : World} {a : Addr} {cs : List Value} (h : w.cells? 0 a 3 = some cs) : ∃ d0 d1 d2, cs = [d0, d1, d2] ∧ w.cell? a = some d0 ∧ w.cell? (a.add 1) = some d1 ∧ w.cell? (a.add 2) = some d2 := by
  unfold World.cells? at h
  simp only [Nat.zero_le, if_true] at h
  cases hc : w.cell? (a.add 0) with
  | none => simp [List.range_succ, hc] at h
  | some d =>
    cases hc1 : w.cell? (a.add 1) with
    | none => simp [List.range_succ, hc, hc1] at h
    | some d1 =>
      cases hc2 : w.cell? (a.add 2) with
      | none => simp [List.range_succ, hc, hc1, hc2] at h
      | some d2 =>
        simp [List.range_succ, hc, hc1, hc2] at h
        exact ⟨d, d1, d2, h.symm, hc, rfl, rfl⟩

theorem cellsOf3 : Try.prog.cellsOf 3 = 1 := by kernel_rfl
theorem cellsOf22 : Try.prog.cellsOf 22 = 1 := by kernel_rfl
theorem cellsOf23 : Try.prog.cellsOf 23 = 1 := by kernel_rfl
theorem cellsOf25 : Try.prog.cellsOf 25 = 3 := by kernel_rfl

section
variable {H : Type} {enc : TypeId × Value → H} {W : World}

/-- A choice below a number, as a list. -/
theorem list_choose {α : Type} : ∀ (len : Nat) {p : Nat → α → Prop} (_ : ∀ i, i < len → ∃ x, p i x), ∃ l : List α, l.length = len ∧ ∀ i, (h : i < l.length) → p i l[i]
  | 0, _, _ => ⟨[], rfl, fun i h => absurd h (Nat.not_lt_zero _)⟩
  | n + 1, p, h => by
    obtain ⟨l, hl, hp⟩ := list_choose n (p := p) (fun i hi => h i (Nat.lt_succ_of_lt hi))
    obtain ⟨x, hx⟩ := h n (Nat.lt_succ_self n)
    refine ⟨l ++ [x], by simp [hl], fun i hi => ?_⟩
    rw [List.getElem_append]
    split
    · rename_i h1; exact hp i h1
    · rename_i h1
      rw [List.length_append, List.length_singleton] at hi
      have : i = n := by omega
      subst this
      simpa using hx

theorem open_ints_fuel {fuel : Nat} {v : Value} {x : DataW H × List MemPlace} (h : DataW.trod enc Try.prog W 0 (fun _ => true) true fuel 22 [v] = some x) : ∃ zs, Ints W v zs := by
  rcases DataW.trod_slice Try.underlying22 h with ⟨h0, _⟩ | ⟨a, len, cap, elems, rest, n, _, hcs, _, _, hl, hm, hlen, hel, _, _⟩
  · simp at h0
    subst h0
    exact ⟨[], by simp, none, 0, rfl, Nat.le_refl _, by unfold maxLen; omega, fun _ => rfl, fun i hi => by simp at hi⟩
  · simp at hcs
    subst hcs
    have key : ∀ i, i < len → ∃ z : Int, (Lit.int .i64 z).wf = true ∧ W.cell? (a.add i) = some (.int .i64 z) := by
      intro i hi
      have := hel i hi
      rw [List.getElem?_eq_getElem (by omega)] at this
      obtain ⟨cs, k1, k2⟩ := Option.bind_eq_some_iff.1 this
      rw [cellsOf3, Nat.mul_one] at k1
      obtain ⟨d, rfl, hd⟩ := cells1 k1
      obtain ⟨z, e1, _, hz⟩ := DataW.trod_int Try.underlying3 k2
      simp at e1
      subst e1
      exact ⟨z, hz, hd⟩
    obtain ⟨zs, hzl, hz⟩ := list_choose len key
    refine ⟨zs, ?_, some a, cap, by rw [hzl], by omega, hm, by simp, ?_⟩
    · intro z hzm
      obtain ⟨i, hi, e⟩ := List.mem_iff_getElem.1 hzm
      rw [← e]; exact (hz i hi).1
    · intro i hi
      obtain ⟨b, off, rfl⟩ := plain_addr (a := a) (by simpa [Addr.add] using (hz 0 (by omega)).2)
      refine ⟨b, off, rfl, ?_⟩
      have := (hz i hi).2
      rw [add_plain] at this
      exact this

theorem open_tree : ∀ (m fuel : Nat) (cs : List Value) (x : DataW H × List MemPlace), fuel ≤ 2 * m → DataW.trod enc Try.prog W 0 (fun _ => true) true fuel 25 cs = some x →
    ∃ (q : QT m) (c0 c1 c2 : Value), cs = [c0, c1, c2] ∧ InM m W q c0 c1 c2
  | 0, fuel, cs, x, hf, h => by
    obtain rfl : fuel = 0 := by omega
    simp [DataW.trod] at h
  | m + 1, fuel, cs, x, hf, h => by
    obtain ⟨xs, n, rfl, _, hcl, hxl, hfs⟩ := DataW.trod_struct Try.underlying25 h
    rw [cellsOf25] at hcl
    match cs, hcl with
    | [c0, c1, c2], _ =>
      have f0 : DataW.trod enc Try.prog W 0 (fun _ => true) true n 3 (([c0, c1, c2].drop 0).take (Try.prog.cellsOf 3)) = xs[0]? := hfs 0 _ rfl
      have f1 : DataW.trod enc Try.prog W 0 (fun _ => true) true n 22 (([c0, c1, c2].drop 1).take (Try.prog.cellsOf 22)) = xs[1]? := hfs 1 _ rfl
      have f2 : DataW.trod enc Try.prog W 0 (fun _ => true) true n 23 (([c0, c1, c2].drop 2).take (Try.prog.cellsOf 23)) = xs[2]? := hfs 2 _ rfl
      rw [cellsOf3] at f0
      rw [cellsOf22] at f1
      rw [cellsOf23] at f2
      have hxl' : xs.length = 3 := hxl
      rw [List.getElem?_eq_getElem (by omega)] at f0 f1 f2
      obtain ⟨t, e0, _, ht⟩ := DataW.trod_int Try.underlying3 f0
      obtain ⟨vs, hvs⟩ := open_ints_fuel f1
      simp at e0
      subst e0
      rcases DataW.trod_slice Try.underlying23 f2 with ⟨h0, _⟩ | ⟨a, len, cap, elems, rest, n2, hn2, hcs, _, _, hl, hm, hlen, hel, _, _⟩
      · simp at h0
        subst h0
        exact ⟨mkQ t vs [], _, _, _, rfl, rfl, ht, hvs, none, 0, rfl, Nat.le_refl _, by unfold maxLen; omega, fun _ => rfl, fun i hi => by simp [inn_mk] at hi⟩
      · simp at hcs
        subst hcs
        have key : ∀ i, i < len → ∃ q : QT m, ∃ d0 d1 d2, W.cell? (a.add (i * 3)) = some d0 ∧ W.cell? ((a.add (i * 3)).add 1) = some d1 ∧ W.cell? ((a.add (i * 3)).add 2) = some d2 ∧ InM m W q d0 d1 d2 := by
          intro i hi
          have := hel i hi
          rw [List.getElem?_eq_getElem (by omega)] at this
          obtain ⟨cs', k1, k2⟩ := Option.bind_eq_some_iff.1 this
          rw [cellsOf25] at k1
          obtain ⟨d0, d1, d2, rfl, g0, g1, g2⟩ := cells3 k1
          obtain ⟨q, e0, e1, e2, e, hq⟩ := open_tree m n2 _ _ (by omega) k2
          simp at e
          obtain ⟨rfl, rfl, rfl⟩ := e
          exact ⟨q, _, _, _, g0, g1, g2, hq⟩
        obtain ⟨qs, hql, hq⟩ := list_choose len key
        refine ⟨mkQ t vs qs, _, _, _, rfl, rfl, ht, hvs, some a, cap, by rw [inn_mk, hql], by rw [inn_mk]; omega, hm, by simp, ?_⟩
        intro i hi
        have hi' : i < qs.length := hi
        obtain ⟨b, off, rfl⟩ : ∃ b off, a = ⟨b, off, none⟩ := by
          obtain ⟨d0, _, _, g, _⟩ := hq 0 (by omega)
          exact plain_addr (w := W) (v := d0) (by simpa [Addr.add] using g)
        obtain ⟨d0, d1, d2, g0, g1, g2, g3⟩ := hq i hi'
        rw [add_plain] at g0 g1 g2
        rw [add_plain] at g1 g2
        exact ⟨b, off, d0, d1, d2, rfl, g0, g1, g2, g3⟩
end
end Go.Proofs.Qxb6001451a
