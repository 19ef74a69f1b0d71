import Derived.Test.Qxb6001451aSizes
namespace Go.Proofs.Qxb6001451a
open Go.RowKit

theorem single_le_sum {α : Type} (f : α → Nat) : ∀ (l : List α) (x : α), x ∈ l → f x ≤ (l.map f).sum
  | a :: l, x, h => by
    rw [List.map_cons, List.sum_cons]
    rcases List.mem_cons.1 h with e | e
    · rw [e]; omega
    · have := single_le_sum f l x e; omega

set_option maxHeartbeats 800000 in
theorem qsMaxID_any : ∀ (n : Nat) (q : QT n) (c0 c1 c2 : Value) (m : Int) (w : World), InM n w q c0 c1 c2 → QIds n q → IdOk m →
    Calls Try.prog 14 #[.agg #[c0, c1, c2], .int .i64 m] w fun e w' => RetI e (fun r => IdOk r ∧ m ≤ r ∧ QMax n q r) ∧ Below w.heap.size w w' := by
  intro n
  induction n with
  | zero => intro q c0 c1 c2 m w h; exact absurd h id
  | succ n ih =>
    intro q c0 c1 c2 m w hq hids hm
    have IH := hide ih
    clear ih
    obtain ⟨rfl, hwt, hv, ia, ic, rfl, hi1, hi2, hi3, hi4⟩ := hq
    have HI := hide hi4
    obtain ⟨L, HL⟩ := name_it (inn q).length
    have hLm : L ≤ 9223372036854775807 := by rw [HL.out]; unfold maxLen at hi2; omega
    rw [← HL.out]
    obtain ⟨t, Ht⟩ := name_it (thr q)
    rw [← Ht.out]
    clear hi1 hi2 hi3 hi4
    have HV := hide hv
    have HID := hide hids
    have HM := hide hm
    clear hwt hids hm
    go_enter Try.func14, Try.ntmps14
    go_wp2_with fail
    refine Calls.mono (maxID_any _ (vals q) m _ (HV.out.below ((Below.refl _ _).alloc (Nat.le_refl _) _)) HID.out.1 HM.out) ?_
    rintro e w0 ⟨⟨r0, rfl, hr⟩, rfl⟩
    have HR := hide hr
    clear hr
    go_wp2_with fail
    go_loopw [1, 13] (fun mv iv wr => ∃ (k : Nat) (r : Int), k ≤ L ∧ iv = .int .i64 (k : Int) ∧ mv = .int .i64 r ∧ Hid (IdOk r ∧ r0 ≤ r ∧ ∀ x ∈ (inn q).take k, QMax n x r) ∧ Box w (.int .i64 t) c1 (.slice ia L ic) wr)
      (fun _ iv _ => L - (intOf iv).toNat)
    case atStart => exact ⟨0, r0, Nat.zero_le _, rfl, rfl, ⟨HR.out.1, Int.le_refl _, fun x hx => by simp at hx⟩, Box.start _ _ _ _ _⟩
    case round =>
      obtain ⟨k, r, hk, rfl, rfl, HS, hbox⟩ := hrel
      have hb0 := hbox.b2
      by_cases hlt : k < L
      · skip
        have hlt' : k < (inn q).length := by rw [← HL.out]; exact hlt
        obtain ⟨b, off, d0, d1, d2, rfl, k0, k1, k2, k3⟩ := HI.out k hlt'
        have hbl : b < w.heap.size := World.block_lt_of_cell? w _ k0
        have g0 := (hbox.below.cell (p := ⟨b, off + k * 3, none⟩) hbl).trans k0
        have g1 := (hbox.below.cell (p := ⟨b, off + k * 3 + 1, none⟩) hbl).trans k1
        have g2 := (hbox.below.cell (p := ⟨b, off + k * 3 + 2, none⟩) hbl).trans k2
        have HK := hide (InM.below n k3 hbox.below)
        clear k0 k1 k2 k3
        go_wp2_with fail
        refine Calls.mono (IH.out _ d0 d1 d2 r wr HK.out (HID.out.2 _ (List.getElem_mem hlt')) HS.out.1) ?_
        rintro e w1 ⟨⟨r1, rfl, hr⟩, hb⟩
        have hbox1 := hbox.step hb
        have HS' : Hid (IdOk r1 ∧ r0 ≤ r1 ∧ ∀ x ∈ (inn q).take (k + 1), QMax n x r1) := by
          obtain ⟨s1, s2, s3⟩ := HS.out
          obtain ⟨q1, q2, q3⟩ := hr
          refine ⟨q1, by omega, ?_⟩
          intro x hx
          rw [List.take_succ_eq_append_getElem hlt'] at hx
          rcases List.mem_append.1 hx with e | e
          · exact QMax.mono n (s3 x e) q2
          · rw [List.mem_singleton.1 e]; exact q3
        clear hb0 g0 g1 g2 HK hbox hb hr HS
        go_wp2_with fail
        go_roundw
        case rel => exact ⟨k + 1, r1, by omega, by go_num, rfl, HS', hbox1⟩
        case measure => simp [intOf]; omega
      · go_wp2_with fail
        go_ret
        obtain ⟨s1, s2, s3⟩ := HS.out
        obtain ⟨p1, p2, p3⟩ := HR.out
        rw [List.take_of_length_le (by rw [← HL.out]; omega)] at s3
        exact ⟨⟨r, rfl, s1, by omega, fun z hz => by have := p3 z hz; omega, s3⟩, hbox.below⟩

set_option maxHeartbeats 800000 in
theorem entries_any : ∀ (n : Nat) (q : QT n) (c0 c1 c2 : Value) (w : World), InM n w q c0 c1 c2 → wt n q ≤ 1048576 →
    Calls Try.prog 19 #[.agg #[c0, c1, c2]] w fun e w' => e = .returned (.int .i64 (ent n q : Int)) ∧ Below w.heap.size w w' := by
  intro n
  induction n with
  | zero => intro q c0 c1 c2 w h; exact absurd h id
  | succ n ih =>
    intro q c0 c1 c2 w hq hw
    have IH := hide ih
    clear ih
    obtain ⟨rfl, hwt, hv, ia, ic, rfl, hi1, hi2, hi3, hi4⟩ := hq
    have HI := hide hi4
    obtain ⟨L, HL⟩ := name_it (inn q).length
    have hLm : L ≤ 9223372036854775807 := by rw [HL.out]; unfold maxLen at hi2; omega
    rw [← HL.out]
    obtain ⟨t, Ht⟩ := name_it (thr q)
    rw [← Ht.out]
    clear hi1 hi2 hi3 hi4
    obtain ⟨hvw, va, vc, rfl, hv1, hv2, hv3, hv4⟩ := hv
    obtain ⟨V, HV⟩ := name_it (vals q).length
    have hent := ent_wt (n + 1) q
    have HE : Hid (ent (n + 1) q = V + L + ((inn q).map (ent n)).sum) := by rw [HV.out, HL.out]; rfl
    have HW : Hid (wt (n + 1) q = 8 * V + 64 * L + ((inn q).map (wt n)).sum) := by rw [HV.out, HL.out]; rfl
    have hEb : V + L ≤ 1048576 := by have := HW.out; omega
    have HEb : Hid (8 * ((inn q).map (ent n)).sum + V + L ≤ 1048576) := by have h1 := HE.out; unfold Hid; omega
    have HWi : Hid (∀ x ∈ inn q, wt n x ≤ 1048576) := by
      intro x hx
      have h1 := HW.out
      have h2 : wt n x ≤ ((inn q).map (wt n)).sum := single_le_sum (wt n) _ x hx
      omega
    rw [← HV.out]
    clear hwt hvw hv1 hv2 hv3 hv4 hent hw
    go_enter Try.func19, Try.ntmps19
    go_wp2_with fail
    go_loopw [3, 15] (fun nv iv wr => ∃ (k s : Nat), k ≤ L ∧ iv = .int .i64 (k : Int) ∧ nv = .int .i64 (s : Int) ∧ s ≤ 1048576 ∧ Hid (s = V + L + (((inn q).take k).map (ent n)).sum) ∧ Box w (.int .i64 t) (.slice va V vc) (.slice ia L ic) wr)
      (fun _ iv _ => L - (intOf iv).toNat)
    case atStart => exact ⟨0, V + L, Nat.zero_le _, rfl, by go_num, hEb, by show _ = _; simp, Box.start _ _ _ _ _⟩
    case round =>
      obtain ⟨k, s, hk, rfl, rfl, hs, HS, hbox⟩ := hrel
      have hb0 := hbox.b2
      by_cases hlt : k < L
      · skip
        have hlt' : k < (inn q).length := by rw [← HL.out]; exact hlt
        obtain ⟨b, off, d0, d1, d2, rfl, k0, k1, k2, k3⟩ := HI.out k hlt'
        have hbl : b < w.heap.size := World.block_lt_of_cell? w _ k0
        have g0 := (hbox.below.cell (p := ⟨b, off + k * 3, none⟩) hbl).trans k0
        have g1 := (hbox.below.cell (p := ⟨b, off + k * 3 + 1, none⟩) hbl).trans k1
        have g2 := (hbox.below.cell (p := ⟨b, off + k * 3 + 2, none⟩) hbl).trans k2
        have HK := hide (InM.below n k3 hbox.below)
        clear k0 k1 k2 k3
        go_wp2_with fail
        refine Calls.mono (IH.out _ d0 d1 d2 wr HK.out (HWi.out _ (List.getElem_mem hlt'))) ?_
        rintro e w1 ⟨rfl, hb⟩
        have hbox1 := hbox.step hb
        obtain ⟨m, Hm⟩ := name_it (ent n (inn q)[k])
        have HS' : Hid (s + m = V + L + (((inn q).take (k + 1)).map (ent n)).sum) := by
          show _ = _
          rw [sum_take_succ _ _ _ hlt', ← Hm.out, HS.out]; omega
        have hsm : s + m ≤ 1048576 := by
          have h1 := HS'.out
          have h2 := sum_take_le (ent n) (inn q) (k + 1)
          have h3 := HEb.out
          omega
        rw [← Hm.out]
        clear hb0 g0 g1 g2 HK hbox hb HS Hm
        go_wp2_with fail
        go_roundw
        case rel => exact ⟨k + 1, s + m, by omega, by go_num, by go_num, hsm, HS', hbox1⟩
        case measure => simp [intOf]; omega
      · go_wp2_with fail
        go_ret
        have hS := HS.out
        rw [List.take_of_length_le (by rw [← HL.out]; omega), ← HE.out] at hS
        exact ⟨ret_int (by rw [hS]), hbox.below⟩

/-- Every threshold of the tree is at least lo. -/
def QGe : (n : Nat) → QT n → Int → Prop
  | 0, _, _ => True
  | n + 1, q, lo => lo ≤ thr q ∧ ∀ x ∈ inn q, QGe n x lo

set_option maxHeartbeats 800000 in
theorem atLeast_any : ∀ (n : Nat) (q : QT n) (c0 c1 c2 : Value) (lo : Int) (w : World), InM n w q c0 c1 c2 → 
    Calls Try.prog 21 #[.agg #[c0, c1, c2], .int .i64 lo] w fun e w' => RetB e (QGe n q lo) ∧ Below w.heap.size w w' := by
  intro n
  induction n with
  | zero => intro q c0 c1 c2 lo w h; exact absurd h id
  | succ n ih =>
    intro q c0 c1 c2 lo w hq 
    have IH := hide ih
    clear ih
    obtain ⟨rfl, hwt, hv, ia, ic, rfl, hi1, hi2, hi3, hi4⟩ := hq
    have HI := hide hi4
    obtain ⟨L, HL⟩ := name_it (inn q).length
    have hLm : L ≤ 9223372036854775807 := by rw [HL.out]; unfold maxLen at hi2; omega
    rw [← HL.out]
    obtain ⟨t, Ht⟩ := name_it (thr q)
    rw [← Ht.out]
    clear hi1 hi2 hi3 hi4
    clear hwt hv
    by_cases h1 : t < lo
    · go_enter Try.func21, Try.ntmps21
      go_wp2_with fail
      go_ret
      exact ⟨⟨false, rfl, fun h => by cases h⟩, (Below.refl _ _).alloc (Nat.le_refl _) _⟩
    have h2 : lo ≤ t := by omega
    clear h1
    go_enter Try.func21, Try.ntmps21
    go_wp2_with fail
    go_loopw [13] (fun iv wr => ∃ k : Nat, k ≤ L ∧ iv = .int .i64 (k : Int) ∧ Hid (∀ x ∈ (inn q).take k, QGe n x lo) ∧ Box w (.int .i64 t) c1 (.slice ia L ic) wr)
      (fun iv _ => L - (intOf iv).toNat)
    case atStart => exact ⟨0, Nat.zero_le _, rfl, fun x hx => by simp at hx, Box.start _ _ _ _ _⟩
    case round =>
      obtain ⟨k, hk, rfl, HS, hbox⟩ := hrel
      have hb0 := hbox.b2
      by_cases hlt : k < L
      · skip
        have hlt' : k < (inn q).length := by rw [← HL.out]; exact hlt
        obtain ⟨b, off, d0, d1, d2, rfl, k0, k1, k2, k3⟩ := HI.out k hlt'
        have hbl : b < w.heap.size := World.block_lt_of_cell? w _ k0
        have g0 := (hbox.below.cell (p := ⟨b, off + k * 3, none⟩) hbl).trans k0
        have g1 := (hbox.below.cell (p := ⟨b, off + k * 3 + 1, none⟩) hbl).trans k1
        have g2 := (hbox.below.cell (p := ⟨b, off + k * 3 + 2, none⟩) hbl).trans k2
        have HK := hide (InM.below n k3 hbox.below)
        clear k0 k1 k2 k3
        go_wp2_with fail
        refine Calls.mono (IH.out _ d0 d1 d2 lo wr HK.out) ?_
        rintro e w1 ⟨⟨r, rfl, hr⟩, hb⟩
        have hbox1 := hbox.step hb
        clear hb0 g0 g1 g2 HK hbox hb
        cases r with
        | false =>
          clear hr
          go_wp2_with fail
          go_ret
          exact ⟨⟨false, rfl, fun h => by cases h⟩, hbox1.below⟩
        | true =>
          have HS' : Hid (∀ x ∈ (inn q).take (k + 1), QGe n x lo) := by
            intro x hx
            rw [List.take_succ_eq_append_getElem hlt'] at hx
            rcases List.mem_append.1 hx with e | e
            · exact HS.out x e
            · rw [List.mem_singleton.1 e]; exact hr rfl
          clear hr
          go_wp2_with fail
          go_roundw
          case rel => exact ⟨k + 1, by omega, by go_num, HS', hbox1⟩
          case measure => simp [intOf]; omega
      · go_wp2_with fail
        go_ret
        have hS := HS.out
        rw [List.take_of_length_le (by rw [← HL.out]; omega)] at hS
        exact ⟨⟨true, rfl, fun _ => ⟨by rw [← Ht.out]; exact h2, hS⟩⟩, hbox.below⟩

/-- Every threshold of the tree is at most lo. -/
def QLe : (n : Nat) → QT n → Int → Prop
  | 0, _, _ => True
  | n + 1, q, lo => thr q ≤ lo ∧ ∀ x ∈ inn q, QLe n x lo

set_option maxHeartbeats 800000 in
theorem atMost_any : ∀ (n : Nat) (q : QT n) (c0 c1 c2 : Value) (lo : Int) (w : World), InM n w q c0 c1 c2 → 
    Calls Try.prog 22 #[.agg #[c0, c1, c2], .int .i64 lo] w fun e w' => RetB e (QLe n q lo) ∧ Below w.heap.size w w' := by
  intro n
  induction n with
  | zero => intro q c0 c1 c2 lo w h; exact absurd h id
  | succ n ih =>
    intro q c0 c1 c2 lo w hq 
    have IH := hide ih
    clear ih
    obtain ⟨rfl, hwt, hv, ia, ic, rfl, hi1, hi2, hi3, hi4⟩ := hq
    have HI := hide hi4
    obtain ⟨L, HL⟩ := name_it (inn q).length
    have hLm : L ≤ 9223372036854775807 := by rw [HL.out]; unfold maxLen at hi2; omega
    rw [← HL.out]
    obtain ⟨t, Ht⟩ := name_it (thr q)
    rw [← Ht.out]
    clear hi1 hi2 hi3 hi4
    clear hwt hv
    by_cases h1 : lo < t
    · go_enter Try.func22, Try.ntmps22
      go_wp2_with fail
      go_ret
      exact ⟨⟨false, rfl, fun h => by cases h⟩, (Below.refl _ _).alloc (Nat.le_refl _) _⟩
    have h2 : t ≤ lo := by omega
    clear h1
    go_enter Try.func22, Try.ntmps22
    go_wp2_with fail
    go_loopw [13] (fun iv wr => ∃ k : Nat, k ≤ L ∧ iv = .int .i64 (k : Int) ∧ Hid (∀ x ∈ (inn q).take k, QLe n x lo) ∧ Box w (.int .i64 t) c1 (.slice ia L ic) wr)
      (fun iv _ => L - (intOf iv).toNat)
    case atStart => exact ⟨0, Nat.zero_le _, rfl, fun x hx => by simp at hx, Box.start _ _ _ _ _⟩
    case round =>
      obtain ⟨k, hk, rfl, HS, hbox⟩ := hrel
      have hb0 := hbox.b2
      by_cases hlt : k < L
      · skip
        have hlt' : k < (inn q).length := by rw [← HL.out]; exact hlt
        obtain ⟨b, off, d0, d1, d2, rfl, k0, k1, k2, k3⟩ := HI.out k hlt'
        have hbl : b < w.heap.size := World.block_lt_of_cell? w _ k0
        have g0 := (hbox.below.cell (p := ⟨b, off + k * 3, none⟩) hbl).trans k0
        have g1 := (hbox.below.cell (p := ⟨b, off + k * 3 + 1, none⟩) hbl).trans k1
        have g2 := (hbox.below.cell (p := ⟨b, off + k * 3 + 2, none⟩) hbl).trans k2
        have HK := hide (InM.below n k3 hbox.below)
        clear k0 k1 k2 k3
        go_wp2_with fail
        refine Calls.mono (IH.out _ d0 d1 d2 lo wr HK.out) ?_
        rintro e w1 ⟨⟨r, rfl, hr⟩, hb⟩
        have hbox1 := hbox.step hb
        clear hb0 g0 g1 g2 HK hbox hb
        cases r with
        | false =>
          clear hr
          go_wp2_with fail
          go_ret
          exact ⟨⟨false, rfl, fun h => by cases h⟩, hbox1.below⟩
        | true =>
          have HS' : Hid (∀ x ∈ (inn q).take (k + 1), QLe n x lo) := by
            intro x hx
            rw [List.take_succ_eq_append_getElem hlt'] at hx
            rcases List.mem_append.1 hx with e | e
            · exact HS.out x e
            · rw [List.mem_singleton.1 e]; exact hr rfl
          clear hr
          go_wp2_with fail
          go_roundw
          case rel => exact ⟨k + 1, by omega, by go_num, HS', hbox1⟩
          case measure => simp [intOf]; omega
      · go_wp2_with fail
        go_ret
        have hS := HS.out
        rw [List.take_of_length_le (by rw [← HL.out]; omega)] at hS
        exact ⟨⟨true, rfl, fun _ => ⟨by rw [← Ht.out]; exact h2, hS⟩⟩, hbox.below⟩
end Go.Proofs.Qxb6001451a
