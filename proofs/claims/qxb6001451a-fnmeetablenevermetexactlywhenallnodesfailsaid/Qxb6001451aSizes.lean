import Derived.Test.Qxb6001451aSmall
namespace Go.Proofs.Qxb6001451a
open Go.RowKit

/-- The bytes that qsBytes counts. -/
def wt : (n : Nat) → QT n → Nat
  | 0, _ => 0
  | n + 1, q => 8 * (vals q).length + 64 * (inn q).length + ((inn q).map (wt n)).sum
/-- Every id of the tree is below 65536. -/
def QIds : (n : Nat) → QT n → Prop
  | 0, _ => True
  | n + 1, q => (∀ z ∈ vals q, IdOk z) ∧ ∀ x ∈ inn q, QIds n x
/-- No id of the tree is above r. -/
def QMax : (n : Nat) → QT n → Int → Prop
  | 0, _, _ => True
  | n + 1, q, r => (∀ z ∈ vals q, z ≤ r) ∧ ∀ x ∈ inn q, QMax n x r
/-- The entries at every level. -/
def ent : (n : Nat) → QT n → Nat
  | 0, _ => 0
  | n + 1, q => (vals q).length + (inn q).length + ((inn q).map (ent n)).sum

theorem QMax.mono : ∀ (n : Nat) {q : QT n} {r s : Int}, QMax n q r → r ≤ s → QMax n q s
  | 0, _, _, _, _, _ => trivial
  | n + 1, q, r, s, h, hrs => ⟨fun z hz => by have := h.1 z hz; omega, fun x hx => QMax.mono n (h.2 x hx) hrs⟩

theorem sum_take_succ {α : Type} (f : α → Nat) (l : List α) (k : Nat) (h : k < l.length) : ((l.take (k + 1)).map f).sum = ((l.take k).map f).sum + f l[k] := by
  rw [List.take_succ_eq_append_getElem h, List.map_append, List.sum_append]; simp only [List.map_cons, List.map_nil, List.sum_cons, List.sum_nil]; omega

theorem sum_take_le {α : Type} (f : α → Nat) (l : List α) (k : Nat) : ((l.take k).map f).sum ≤ (l.map f).sum := by
  conv => rhs; rw [← List.take_append_drop k l, List.map_append, List.sum_append]
  omega

theorem ent_wt : ∀ (n : Nat) (q : QT n), 8 * ent n q ≤ wt n q
  | 0, _ => by simp [ent, wt]
  | n + 1, q => by
    have h : ∀ l : List (QT n), 8 * (l.map (ent n)).sum ≤ (l.map (wt n)).sum := by
      intro l
      induction l with
      | nil => simp
      | cons a l ih => have := ent_wt n a; simp; omega
    have := h (inn q)
    simp only [ent, wt]
    omega

/-- A call's own box of a QSet parameter, at the block that was the first new one. -/
structure Box (w : World) (c0 c1 c2 : Value) (wr : World) : Prop where
  below : Below w.heap.size w wr
  size : w.heap.size < wr.heap.size
  b0 : wr.cell? ⟨w.heap.size, 0, none⟩ = some c0
  b1 : wr.cell? ⟨w.heap.size, 1, none⟩ = some c1
  b2 : wr.cell? ⟨w.heap.size, 2, none⟩ = some c2

theorem Box.start (w : World) (c0 c1 c2 : Value) (T : TypeId) : Box w c0 c1 c2 (w.alloc (.cells #[c0, c1, c2] T)) :=
  ⟨(Below.refl _ _).alloc (Nat.le_refl _) _, by simp, by rw [World.cell?_alloc_at _ _ _ _ rfl]; rfl, by rw [World.cell?_alloc_at _ _ _ _ rfl]; rfl, by rw [World.cell?_alloc_at _ _ _ _ rfl]; rfl⟩

theorem Box.step {w wr w1 : World} {c0 c1 c2 : Value} (h : Box w c0 c1 c2 wr) (hb : Below wr.heap.size wr w1) : Box w c0 c1 c2 w1 :=
  ⟨h.below.trans (hb.mono (Nat.le_of_lt h.size)), Nat.lt_of_lt_of_le h.size hb.size, (hb.cell (p := ⟨w.heap.size, 0, none⟩) h.size).trans h.b0, (hb.cell (p := ⟨w.heap.size, 1, none⟩) h.size).trans h.b1, (hb.cell (p := ⟨w.heap.size, 2, none⟩) h.size).trans h.b2⟩

set_option maxHeartbeats 800000 in
theorem qsBytes_any : ∀ (n : Nat) (q : QT n) (c0 c1 c2 : Value) (bud : Int) (w : World), InM n w q c0 c1 c2 → -9223372036854775808 ≤ bud → bud ≤ 1048576 →
    Calls Try.prog 10 #[.agg #[c0, c1, c2], .int .i64 bud] w fun e w' => RetI e (fun r => r = -1 ∨ (r = wt n q ∧ (wt n q : Int) ≤ bud)) ∧ Below w.heap.size w w' := by
  intro n
  induction n with
  | zero => intro q c0 c1 c2 bud w h; exact absurd h id
  | succ n ih =>
    intro q c0 c1 c2 bud w hq hb1 hb2
    have IH := hide ih
    have HQ := hide hq
    clear ih
    obtain ⟨rfl, hwt, ⟨hvw, va, vc, rfl, hv1, hv2, hv3, hv4⟩, ia, ic, rfl, hi1, hi2, hi3, hi4⟩ := hq
    have HI := hide hi4
    obtain ⟨V, HV⟩ := name_it (vals q).length
    obtain ⟨L, HL⟩ := name_it (inn q).length
    have hVm : V ≤ 9223372036854775807 := by rw [HV.out]; unfold maxLen at hv2; omega
    have hLm : L ≤ 9223372036854775807 := by rw [HL.out]; unfold maxLen at hi2; omega
    have HW : Hid (wt (n + 1) q = 8 * V + 64 * L + ((inn q).map (wt n)).sum) := by rw [HV.out, HL.out]; rfl
    rw [← HV.out, ← HL.out]
    obtain ⟨t, Ht⟩ := name_it (thr q)
    rw [← Ht.out]
    clear hwt hvw hv1 hv2 hv3 hv4 hi1 hi2 hi3 hi4
    by_cases h1 : bud < 0
    · go_enter Try.func10, Try.ntmps10
      go_wp2_with fail
      go_ret
      exact ⟨⟨-1, rfl, Or.inl rfl⟩, (Below.refl _ _).alloc (Nat.le_refl _) _⟩
    have h1a : 0 ≤ bud := by omega
    have h1b : decide (bud < 0) = false := by rw [decide_eq_false_iff_not]; omega
    clear h1
    by_cases h2 : bud / 8 < (V : Int)
    · go_enter Try.func10, Try.ntmps10
      go_wp2_with fail
      go_ret
      exact ⟨⟨-1, rfl, Or.inl rfl⟩, (Below.refl _ _).alloc (Nat.le_refl _) _⟩
    have h2a : (V : Int) ≤ bud / 8 := by omega
    clear h2
    by_cases h3 : (bud - 8 * (V : Int)) / 64 < (L : Int)
    · go_enter Try.func10, Try.ntmps10
      go_wp2_with fail
      go_ret
      exact ⟨⟨-1, rfl, Or.inl rfl⟩, (Below.refl _ _).alloc (Nat.le_refl _) _⟩
    have h3a : (L : Int) ≤ (bud - 8 * (V : Int)) / 64 := by omega
    clear h3
    go_enter Try.func10, Try.ntmps10
    go_wp2_with fail
    go_loopw [5, 39] (fun nv iv wr => ∃ (k s : Nat), k ≤ L ∧ iv = .int .i64 (k : Int) ∧ nv = .int .i64 (s : Int) ∧ (s : Int) ≤ bud ∧ Hid (s = 8 * V + 64 * L + (((inn q).take k).map (wt n)).sum) ∧ Box w (.int .i64 t) (.slice va V vc) (.slice ia L ic) wr)
      (fun _ iv _ => L - (intOf iv).toNat)
    case atStart => exact ⟨0, 8 * V + 64 * L, Nat.zero_le _, rfl, by go_num, by omega, by show _ = _; simp, Box.start _ _ _ _ _⟩
    case round =>
      obtain ⟨k, s, hk, rfl, rfl, hs, HS, hbox⟩ := hrel
      have hb0 := hbox.b2
      by_cases hlt : k < L
      · have hlt' : k < (inn q).length := by rw [← HL.out]; exact hlt
        obtain ⟨b, off, d0, d1, d2, rfl, k0, k1, k2, k3⟩ := HI.out k hlt'
        have hbl : b < w.heap.size := World.block_lt_of_cell? w _ k0
        have g0 := (hbox.below.cell (p := ⟨b, off + k * 3, none⟩) hbl).trans k0
        have g1 := (hbox.below.cell (p := ⟨b, off + k * 3 + 1, none⟩) hbl).trans k1
        have g2 := (hbox.below.cell (p := ⟨b, off + k * 3 + 2, none⟩) hbl).trans k2
        have HK := hide (InM.below n k3 hbox.below)
        clear k0 k1 k2 k3
        go_wp2_with fail
        refine Calls.mono (IH.out _ d0 d1 d2 (bud - (s : Int)) wr HK.out (by omega) (by omega)) ?_
        rintro e w1 ⟨⟨r, rfl, hr⟩, hb⟩
        have hbox1 := hbox.step hb
        clear hb0 g0 g1 g2 HK hbox hb
        rcases hr with rfl | ⟨rfl, hle⟩
        · go_wp2_with fail
          go_ret
          exact ⟨⟨-1, rfl, Or.inl rfl⟩, hbox1.below⟩
        · obtain ⟨m, Hm⟩ := name_it (wt n (inn q)[k])
          rw [← Hm.out] at hle
          have HS' : Hid (s + m = 8 * V + 64 * L + (((inn q).take (k + 1)).map (wt n)).sum) := by
            show _ = _
            rw [sum_take_succ _ _ _ hlt', ← Hm.out, HS.out]; omega
          rw [← Hm.out]
          clear HS Hm
          go_wp2_with fail
          go_roundw
          case rel => exact ⟨k + 1, s + m, by omega, by go_num, by go_num, by omega, HS', hbox1⟩
          case measure => simp [intOf]; omega
      · go_wp2_with fail
        go_ret
        have hS := HS.out
        rw [List.take_of_length_le (by rw [← HL.out]; omega), ← HW.out] at hS
        exact ⟨⟨(s : Int), rfl, Or.inr ⟨by rw [hS], by rw [← hS]; exact hs⟩⟩, hbox.below⟩

set_option maxHeartbeats 800000 in
theorem qsIdsFit_any : ∀ (n : Nat) (q : QT n) (c0 c1 c2 : Value) (w : World), InM n w q c0 c1 c2 → 
    Calls Try.prog 11 #[.agg #[c0, c1, c2]] w fun e w' => RetB e (QIds n q) ∧ Below w.heap.size w w' := by
  intro n
  induction n with
  | zero => intro q c0 c1 c2 w h; exact absurd h id
  | succ n ih =>
    intro q c0 c1 c2 w hq 
    have IH := hide ih
    clear ih
    obtain ⟨rfl, hwt, hv, ia, ic, rfl, hi1, hi2, hi3, hi4⟩ := hq
    have HI := hide hi4
    obtain ⟨L, HL⟩ := name_it (inn q).length
    have hLm : L ≤ 9223372036854775807 := by rw [HL.out]; unfold maxLen at hi2; omega
    rw [← HL.out]
    obtain ⟨t, Ht⟩ := name_it (thr q)
    rw [← Ht.out]
    clear hi1 hi2 hi3 hi4
    have HV := hide hv
    clear hwt
    go_enter Try.func11, Try.ntmps11
    go_wp2_with fail
    refine Calls.mono (idsFit_any _ (vals q) _ (HV.out.below ((Below.refl _ _).alloc (Nat.le_refl _) _))) ?_
    rintro e w0 ⟨⟨r, rfl, hr⟩, rfl⟩
    cases r with
    | false =>
      go_wp2_with fail
      go_ret
      exact ⟨⟨false, rfl, fun h => by cases h⟩, (Below.refl _ _).alloc (Nat.le_refl _) _⟩
    | true =>
    have HR := hide (hr rfl)
    clear hr
    go_wp2_with fail
    go_loopw [11] (fun iv wr => ∃ k : Nat, k ≤ L ∧ iv = .int .i64 (k : Int) ∧ Hid (∀ x ∈ (inn q).take k, QIds n x) ∧ Box w (.int .i64 t) c1 (.slice ia L ic) wr)
      (fun iv _ => L - (intOf iv).toNat)
    case atStart => exact ⟨0, Nat.zero_le _, rfl, fun x hx => by simp at hx, Box.start _ _ _ _ _⟩
    case round =>
      obtain ⟨k, hk, rfl, HS, hbox⟩ := hrel
      have hb0 := hbox.b2
      by_cases hlt : k < L
      · skip
        have hlt' : k < (inn q).length := by rw [← HL.out]; exact hlt
        obtain ⟨b, off, d0, d1, d2, rfl, k0, k1, k2, k3⟩ := HI.out k hlt'
        have hbl : b < w.heap.size := World.block_lt_of_cell? w _ k0
        have g0 := (hbox.below.cell (p := ⟨b, off + k * 3, none⟩) hbl).trans k0
        have g1 := (hbox.below.cell (p := ⟨b, off + k * 3 + 1, none⟩) hbl).trans k1
        have g2 := (hbox.below.cell (p := ⟨b, off + k * 3 + 2, none⟩) hbl).trans k2
        have HK := hide (InM.below n k3 hbox.below)
        clear k0 k1 k2 k3
        go_wp2_with fail
        refine Calls.mono (IH.out _ d0 d1 d2 wr HK.out) ?_
        rintro e w1 ⟨⟨r, rfl, hr⟩, hb⟩
        have hbox1 := hbox.step hb
        clear hb0 g0 g1 g2 HK hbox hb
        cases r with
        | false =>
          clear hr
          go_wp2_with fail
          go_ret
          exact ⟨⟨false, rfl, fun h => by cases h⟩, hbox1.below⟩
        | true =>
          have HS' : Hid (∀ x ∈ (inn q).take (k + 1), QIds n x) := by
            intro x hx
            rw [List.take_succ_eq_append_getElem hlt'] at hx
            rcases List.mem_append.1 hx with e | e
            · exact HS.out x e
            · rw [List.mem_singleton.1 e]; exact hr rfl
          clear hr
          go_wp2_with fail
          go_roundw
          case rel => exact ⟨k + 1, by omega, by go_num, HS', hbox1⟩
          case measure => simp [intOf]; omega
      · go_wp2_with fail
        go_ret
        have hS := HS.out
        rw [List.take_of_length_le (by rw [← HL.out]; omega)] at hS
        exact ⟨⟨true, rfl, fun _ => ⟨HR.out, hS⟩⟩, hbox.below⟩
end Go.Proofs.Qxb6001451a
