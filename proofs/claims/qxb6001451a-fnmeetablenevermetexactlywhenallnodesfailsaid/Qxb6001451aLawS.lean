import Derived.Test.Qxb6001451aSat
import Derived.Deep.DeepCutAuto
namespace Go.Proofs.Qxb6001451a
open Go.RowKit

theorem cut_words {n : Nat} {q : QT n} {zs : List Int} {c0 c1 c2 : Value} {w wx : World} {r0 r1 : Int} (h0 : IdOk r0 ∧ 0 ≤ r0 ∧ ∀ z ∈ zs, z ≤ r0) (h1 : IdOk r1 ∧ r0 ≤ r1 ∧ QMax n q r1) (hb : Box w c0 c1 c2 wx) :
    ∃ r : Nat, Value.int .i64 (r1 / 64 + 1) = .int .i64 ((r / 64 + 1 : Nat) : Int) ∧ Hid (r < 65536 ∧ QMax n q (r : Int) ∧ ∀ z ∈ zs, z ≤ (r : Int)) ∧ Box w c0 c1 c2 wx := by
  obtain ⟨⟨g1, g2⟩, g3, g4⟩ := h1
  obtain ⟨r, rfl⟩ := Int.eq_ofNat_of_zero_le g1
  refine ⟨r, by congr 1, ⟨by omega, g4, fun z hz => by have := h0.2.2 z hz; omega⟩, hb⟩

set_option maxHeartbeats 3200000 in
theorem lawS (n : Nat) (q : QT n) (c0 c1 c2 v : Value) (zs : List Int) (w : World) (hq : InM n w q c0 c1 c2) (hv : Ints w v zs) :
    Calls Try.prog 3 #[.agg #[c0, c1, c2], v] w fun e w' => e = .returned (.bool true) ∧ Below w.heap.size w w' := by
  cases n with
  | zero => exact absurd hq id
  | succ n =>
  have HQ := hide hq
  have HV := hide hv
  obtain ⟨M, Mn⟩ := name_it zs.length
  have hMm : M ≤ 9223372036854775807 := by
    obtain ⟨_, a, cap, _, h1, h2, _⟩ := hv
    unfold maxLen at h2
    rw [Mn.out]; omega
  obtain ⟨_, ma, mc, rfl, _⟩ := hv
  rw [← Mn.out] at HV ⊢
  clear hq
  by_cases hM : 131072 < M
  · go_enter Try.func3, Try.ntmps3
    go_wp2_with fail
    go_ret
    exact ⟨rfl, (Box.start w c0 c1 c2 25).below⟩
  have hM1 : M ≤ 131072 := by omega
  clear hM hMm
  go_enter Try.func3, Try.ntmps3
  go_wp2_with fail
  have hbox0 := Box.start w c0 c1 c2 25
  refine Calls.mono (qsBytes_any (n + 1) q c0 c1 c2 _ _ (InM.below (n + 1) HQ.out hbox0.below) (by omega) (by omega)) ?_
  rintro e w1 ⟨⟨r, rfl, hr⟩, hb1⟩
  have hbox1 := hbox0.step hb1
  clear hbox0 hb1
  rcases hr with rfl | ⟨rfl, hle⟩
  · go_wp2_with fail
    go_ret
    exact ⟨rfl, hbox1.below⟩
  obtain ⟨W, Wn⟩ := name_it (wt (n + 1) q)
  rw [← Wn.out] at hle ⊢
  have HWb : Hid (wt (n + 1) q ≤ 1048576) := by rw [← Wn.out]; unfold Hid; omega
  have e0 := hbox1.b0
  have e1 := hbox1.b1
  have e2 := hbox1.b2
  go_wp2_with fail
  refine Calls.mono (qsIdsFit_any (n + 1) q c0 c1 c2 w1 (InM.below (n + 1) HQ.out hbox1.below)) ?_
  rintro e w2 ⟨⟨b, rfl, hids⟩, hb2⟩
  have hbox2 := hbox1.step hb2
  clear e0 e1 e2 hbox1 hb2
  cases b with
  | false =>
    clear hids
    go_wp2_with fail
    go_ret
    exact ⟨rfl, hbox2.below⟩
  | true =>
  have HID := hide (hids rfl)
  clear hids
  go_wp2_with fail
  refine Calls.mono (idsFit_any _ zs w2 (HV.out.below hbox2.below)) ?_
  rintro e w2' ⟨⟨b, rfl, hmem⟩, rfl⟩
  cases b with
  | false =>
    clear hmem
    go_wp2_with fail
    go_ret
    exact ⟨rfl, hbox2.below⟩
  | true =>
  have HMI := hide (hmem rfl)
  clear hmem
  have e0 := hbox2.b0
  have e1 := hbox2.b1
  have e2 := hbox2.b2
  go_wp2_with fail
  go_cut [5] (fun wd wx => ∃ r : Nat, wd = .int .i64 ((r / 64 + 1 : Nat) : Int) ∧ Hid (r < 65536 ∧ QMax (n + 1) q (r : Int) ∧ ∀ z ∈ zs, z ≤ (r : Int)) ∧ Box w c0 c1 c2 wx)
  case first =>
    go_region_with (first
      | (go_at_call 15; refine (maxID_any _ zs 0 _ ?_ HMI.out ⟨by omega, by omega⟩).mono ?_; exact HV.out.below hbox2.below.drew; rintro e w3 ⟨⟨r0, rfl, hr0⟩, rfl⟩)
      | (go_at_call 14; refine (qsMaxID_any (n + 1) q c0 c1 c2 _ _ ?_ HID.out hr0.1).mono ?_; exact InM.below (n + 1) HQ.out hbox2.below.drew; rintro e w4 ⟨⟨r1, rfl, hr1⟩, hb4⟩)
      | (go_at_call 13; refine (wordsFor_any _ _ hr1.1).mono ?_; rintro e w5 ⟨rfl, rfl⟩))
    all_goals
      go_wp2_with fail
      go_meet
      case rel => exact cut_words hr0 hr1 ((hbox2.step (Below.refl _ _).drew).step hb4)
  case rest =>
    clear e0 e1 e2 hbox2
    obtain ⟨r, rfl, HR, hbox3⟩ := hcut
    obtain ⟨N, Nn⟩ := name_it (r / 64 + 1)
    have hN : N ≤ 2000 := by have := HR.out.1; rw [Nn.out]; omega
    have HNr : Hid ((r : Int) / 64 < (N : Int)) := by rw [Nn.out]; unfold Hid; omega
    rw [← Nn.out]
    go_wp2_with fail
    refine Calls.mono (bitsOf_any _ zs N wc (HV.out.below hbox3.below) hN (fun z hz => ⟨HMI.out z hz, by have h1 := HR.out.2.2 z hz; have h2 := HNr.out; omega⟩)) ?_
    rintro e w6 ⟨ws, rfl, hwl, hwat, hws6, hb6⟩
    have hbox6 := hbox3.step hb6
    have HWL := hide hwl
    obtain ⟨SB, Sn⟩ := name_it wc.heap.size
    rw [← Sn.out] at hwat hws6
    rw [← Sn.out]
    have e0 := hbox6.b0
    have e1 := hbox6.b1
    have e2 := hbox6.b2
    clear hwl hb6 hbox3
    go_wp2_with fail
    refine Calls.mono (toProject_any (n + 1) q c0 c1 c2 w6 (InM.below (n + 1) HQ.out hbox6.below) HWb.out) ?_
    rintro e w7 ⟨p0, p1, p2, p3, rfl, hpm, hb7⟩
    have hbox7 := hbox6.step hb7
    have hwat7 := hwat.below hb7 hws6
    have hSB7 : SB < w7.heap.size := Nat.lt_of_lt_of_le hws6 hb7.size
    obtain ⟨t6, xa, xn, xc, ya, yn, yc, rfl, rfl, rfl, rfl⟩ := PM.shape _ hpm
    have HPM := hide hpm
    clear e0 e1 e2 hb7 hwat hws6 hpm hbox6
    go_wp2_with fail
    have hbox8 := hbox7.step ((Below.refl w7.heap.size w7).alloc (Nat.le_refl _) (.cells #[.int .i64 t6, .slice xa xn xc, .slice ya yn yc, .slice none 0 0] 36))
    refine Calls.mono (zzSat_any ws _ (r : Int) (by rw [HWL.out]; exact HNr.out) (n + 1) q _ _ _ _ _ w7.heap.size 0 _ (PM.keep (n + 1) HPM.out (From.of_below ((Below.refl _ _).alloc (Nat.le_refl _) _))) ?_ ?_ ?_ (WAt.words (hwat7.below ((Below.refl _ _).alloc (Nat.le_refl _) _) hSB7) HWL.out) HID.out HR.out.2.1 HWb.out) ?_
    · rw [World.cell?_alloc_at _ _ _ _ rfl]; rfl
    · rw [World.cell?_alloc_at _ _ _ _ rfl]; rfl
    · rw [World.cell?_alloc_at _ _ _ _ rfl]; rfl
    rintro e w9 ⟨rfl, m, rfl⟩
    have HSB := hide (sat_bounds (memb ws) n q)
    have HSL := hide (sat_le (memb ws) (n + 1) q)
    obtain ⟨⟨ok, ex⟩, Rn⟩ := name_it (sat (memb ws) (n + 1) q)
    rw [← Rn.out] at HSB HSL
    rw [← Rn.out]
    have hbox9 : Box w c0 c1 c2 ((w7.alloc (.cells #[.int .i64 t6, .slice xa xn xc, .slice ya yn yc, .slice none 0 0] 36)).drewN m) := hbox8.step (below_drewN (Below.refl _ _) m)
    generalize (w7.alloc (.cells #[.int .i64 t6, .slice xa xn xc, .slice ya yn yc, .slice none 0 0] 36)).drewN m = w9 at *
    clear hbox8 hbox7 hwat7 hSB7 HPM
    have e0 := hbox9.b0
    have e1 := hbox9.b1
    have e2 := hbox9.b2
    obtain ⟨hc0, hwf, ⟨_, va, vc, hc1, _, hvm, _⟩, ia, ic, hc2, _, him, _⟩ := HQ.out
    obtain ⟨V, Vn⟩ := name_it (vals q).length
    obtain ⟨L, Ln⟩ := name_it (inn q).length
    obtain ⟨t, Tn⟩ := name_it (thr q)
    rw [← Vn.out] at hc1
    rw [← Ln.out] at hc2
    rw [← Tn.out] at hc0
    rw [← Vn.out, ← Ln.out, ← Tn.out] at HSB
    rw [hc0] at e0
    rw [hc1] at e1
    rw [hc2] at e2
    have hVL : 8 * V + 64 * L ≤ 1048576 := by
      have h1 : wt (n + 1) q = 8 * (vals q).length + 64 * (inn q).length + ((inn q).map (wt n)).sum := rfl
      have h2 := HWb.out
      rw [Vn.out, Ln.out]; omega
    have HC := hide (entries_any (n + 1) q c0 c1 c2 w9 (InM.below (n + 1) HQ.out hbox9.below) HWb.out)
    rw [hc0, hc1, hc2] at HC
    clear hc0 hc1 hc2 hwf hvm him
    by_cases h1 : (V : Int) + (L : Int) < t
    · have h2 := HSB.out.1 h1
      simp only [Prod.mk.injEq] at h2
      obtain ⟨rfl, rfl⟩ := h2
      go_wp2_with fail
      go_ret
      exact ⟨rfl, hbox9.below⟩
    · have h1a : t ≤ (V : Int) + (L : Int) := by omega
      have hent : Hid (ent (n + 1) q ≤ 131072) := by
        have h2 := ent_wt (n + 1) q
        have h3 := HWb.out
        unfold Hid; omega
      obtain ⟨en, En⟩ := name_it (ent (n + 1) q)
      have hen : en ≤ 131072 := by rw [En.out]; exact hent.out
      have hex : ex ≤ en := by have := HSL.out; rw [En.out]; exact this
      rw [← En.out] at HC
      cases ok with
      | true =>
        have h3 := HSB.out.2.1 rfl
        obtain ⟨h4, h5⟩ := h3
        simp only at h5
        clear h1
        go_wp2_with fail
        refine Calls.mono HC.out ?_
        rintro e w10 ⟨rfl, hb10⟩
        have hbox10 := hbox9.step hb10
        have f0 : w10.cell? ⟨w.heap.size, 0, none⟩ = some (.int .i64 t) := (hb10.cell (p := ⟨w.heap.size, 0, none⟩) hbox9.size).trans e0
        clear e0 e1 e2 hb10 hbox9
        go_wp2_with fail
        go_ret
        exact ⟨ret_bool (by first | rfl | (simp; done) | (simp; omega)), hbox10.below⟩
      | false =>
        have h3 := HSB.out.2.2 h1 rfl
        simp only at h3
        clear h1
        go_wp2_with fail
        refine Calls.mono HC.out ?_
        rintro e w10 ⟨rfl, hb10⟩
        have hbox10 := hbox9.step hb10
        clear e0 e1 e2 hb10 hbox9
        go_wp2_with fail
        go_ret
        exact ⟨ret_bool (by first | rfl | (simp; done) | (simp; omega)), hbox10.below⟩
end Go.Proofs.Qxb6001451a
