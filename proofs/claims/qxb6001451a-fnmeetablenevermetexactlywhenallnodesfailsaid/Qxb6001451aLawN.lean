import Derived.Test.Qxb6001451aLawT
import Derived.Test.Qxb6001451aLawS
namespace Go.Proofs.Qxb6001451a
open Go.RowKit
attribute [local go_sem ↓] Go.wp_at_zero Go.wp_at_succ

theorem St2.ones {w : World} {c0 c1 c2 : Value} {B1 : Nat} {ws : List Nat} {B2 : Nat} {sa : List Nat} {wr : World} (h : St2 w c0 c1 c2 B1 ws B2 sa wr) {j : Nat} (hj : j < sa.length) :
    St2 w c0 c1 c2 B1 ws B2 (sa.set j 18446744073709551615) (wr.setCell ⟨B2, j, none⟩ (.int .u64 18446744073709551615)) :=
  ⟨h.box.set (by have := h.l1; have := h.l2; omega) _, h.w1.other (by have := h.l2; omega) _, h.w2.set j 18446744073709551615 hj (by omega), h.l1, h.l2, by simpa [World.setCell] using h.s2⟩

theorem ones_step {xs : List Nat} {k : Nat} (h : ∀ i, i < k → xs[i]? = some 18446744073709551615) (hk : k < xs.length) : ∀ i, i < k + 1 → (xs.set k 18446744073709551615)[i]? = some 18446744073709551615 := by
  intro i hi
  by_cases e : k = i
  · subst e; rw [List.getElem?_set_self hk]
  · rw [List.getElem?_set_ne e]; exact h i (by omega)

theorem memb_ones {xs : List Nat} {N : Nat} (h : ∀ i, i < N → xs[i]? = some 18446744073709551615) (z : Nat) (hz : z / 64 < N) : memb xs z = true := by
  unfold memb
  rw [List.getD, h _ hz, Option.getD_some, show (18446744073709551615 : Nat) = 2 ^ 64 - 1 by omega, Nat.testBit_two_pow_sub_one]
  have := Nat.mod_lt z (show 64 > 0 by omega)
  simpa using this

theorem allIn_of {S : Nat → Bool} {r : Int} (h : ∀ z : Nat, (z : Int) ≤ r → S z = true) : ∀ (n : Nat) (q : QT n), QIds n q → QMax n q r → AllIn S n q
  | 0, _, _, _ => trivial
  | n + 1, q, hi, hm => ⟨fun z hz => h z.toNat (by have h1 := (hi.1 z hz).1; have h2 := hm.1 z hz; omega), fun x hx => allIn_of h n x (hi.2 x hx) (hm.2 x hx)⟩

set_option maxHeartbeats 6400000 in
set_option maxRecDepth 100000 in
theorem lawN (n : Nat) (q : QT n) (c0 c1 c2 v : Value) (zs : List Int) (w : World) (hq : InM n w q c0 c1 c2) (hv : Ints w v zs) :
    Calls Try.prog 5 #[.agg #[c0, c1, c2], v] w fun e w' => e = .returned (.bool true) ∧ Below w.heap.size w w' := by
  cases n with
  | zero => exact absurd hq id
  | succ n =>
  have HQ := hide hq
  have HV := hide hv
  have hMm := ints_len hv
  obtain ⟨M, Mn⟩ := name_it zs.length
  obtain ⟨_, ma, mc, rfl, _⟩ := hv
  rw [← Mn.out] at HV hMm ⊢
  clear hq
  by_cases hM : 131072 < M
  · go_enter Try.func5, Try.ntmps5
    go_wp2_with fail
    go_ret
    exact ⟨rfl, (Box.start w c0 c1 c2 25).below⟩
  have hM1 : M ≤ 131072 := by omega
  clear hM hMm
  go_enter Try.func5, Try.ntmps5
  go_wp2_with fail
  have hbox0 := Box.start w c0 c1 c2 25
  refine Calls.mono (qsBytes_any (n + 1) q c0 c1 c2 _ _ (InM.below (n + 1) HQ.out hbox0.below) (by omega) (by omega)) ?_
  rintro e w1 ⟨⟨r, rfl, hr⟩, hb1⟩
  have hbox1 := hbox0.step hb1
  clear hbox0 hb1
  rcases hr with rfl | ⟨rfl, hle⟩
  · go_wp2_with fail
    go_ret
    exact ⟨rfl, hbox1.below⟩
  obtain ⟨W, Wn⟩ := name_it (wt (n + 1) q)
  rw [← Wn.out] at hle ⊢
  have HWb : Hid (wt (n + 1) q ≤ 1048576) := by rw [← Wn.out]; unfold Hid; omega
  have hW0 : decide ((W : Int) < 0) = false := by rw [decide_eq_false_iff_not]; omega
  have e0 := hbox1.b0
  have e1 := hbox1.b1
  have e2 := hbox1.b2
  go_wp2_with fail
  refine Calls.mono (qsIdsFit_any (n + 1) q c0 c1 c2 w1 (InM.below (n + 1) HQ.out hbox1.below)) ?_
  rintro e w2 ⟨⟨b, rfl, hids⟩, hb2⟩
  have hbox2 := hbox1.step hb2
  clear e0 e1 e2 hbox1 hb2
  cases b with
  | false =>
    clear hids
    go_wp2_with fail
    go_ret
    exact ⟨rfl, hbox2.below⟩
  | true =>
  have HID := hide (hids rfl)
  clear hids
  go_wp2_with fail
  refine Calls.mono (idsFit_any _ zs w2 (HV.out.below hbox2.below)) ?_
  rintro e w2' ⟨⟨b, rfl, hmem⟩, rfl⟩
  cases b with
  | false =>
    clear hmem
    go_wp2_with fail
    go_ret
    exact ⟨rfl, hbox2.below⟩
  | true =>
  have HMI := hide (hmem rfl)
  clear hmem
  have e0 := hbox2.b0
  have e1 := hbox2.b1
  have e2 := hbox2.b2
  go_wp2_with fail
  refine Calls.mono (atLeast_any (n + 1) q c0 c1 c2 1 _ (InM.below (n + 1) HQ.out hbox2.below)) ?_
  rintro e w3 ⟨⟨b, rfl, hge⟩, hb3⟩
  have hbox3 := hbox2.step hb3
  clear e0 e1 e2 hbox2 hb3
  cases b with
  | false =>
    clear hge
    go_wp2_with fail
    go_ret
    exact ⟨rfl, hbox3.below⟩
  | true =>
  have HGE := hide (hge rfl)
  clear hge
  have e0 := hbox3.b0
  have e1 := hbox3.b1
  have e2 := hbox3.b2
  go_wp2_with fail
  refine Calls.mono (atMost_any (n + 1) q c0 c1 c2 536870912 _ (InM.below (n + 1) HQ.out hbox3.below)) ?_
  rintro e w4 ⟨⟨b, rfl, hla⟩, hb4⟩
  have hbox4 := hbox3.step hb4
  clear e0 e1 e2 hbox3 hb4
  cases b with
  | false =>
    clear hla
    go_wp2_with fail
    go_ret
    exact ⟨rfl, hbox4.below⟩
  | true =>
  have HLA := hide (hla rfl)
  clear hla
  have e0 := hbox4.b0
  have e1 := hbox4.b1
  have e2 := hbox4.b2
  go_wp2_with fail
  go_cut [5] (fun wd wx => ∃ r : Nat, wd = .int .i64 ((r / 64 + 1 : Nat) : Int) ∧ Hid (r < 65536 ∧ QMax (n + 1) q (r : Int) ∧ ∀ z ∈ zs, z ≤ (r : Int)) ∧ Box w c0 c1 c2 wx)
  case first =>
    go_region_with (first
      | (go_at_call 15; refine (maxID_any _ zs 0 _ ?_ HMI.out ⟨by omega, by omega⟩).mono ?_; exact HV.out.below hbox4.below.drew; rintro e w5 ⟨⟨r0, rfl, hr0⟩, rfl⟩)
      | (go_at_call 14; refine (qsMaxID_any (n + 1) q c0 c1 c2 _ _ ?_ HID.out hr0.1).mono ?_; exact InM.below (n + 1) HQ.out hbox4.below.drew; rintro e w6 ⟨⟨r1, rfl, hr1⟩, hb6⟩)
      | (go_at_call 13; refine (wordsFor_any _ _ hr1.1).mono ?_; rintro e w7 ⟨rfl, rfl⟩))
    all_goals
      go_wp2_with fail
      go_meet
      case rel => exact cut_words hr0 hr1 (hbox4.drew.step hb6)
  case rest =>
    clear e0 e1 e2 hbox4
    obtain ⟨r, rfl, HR, hbox3⟩ := hcut
    obtain ⟨i43, hi, hy0, hy1, hy2⟩ := info_parts info43
    obtain ⟨N, Nn⟩ := name_it (r / 64 + 1)
    have hN : N ≤ 2000 := by have := HR.out.1; rw [Nn.out]; omega
    have HNr : Hid ((r : Int) / 64 < (N : Int)) := by rw [Nn.out]; unfold Hid; omega
    rw [← Nn.out]
    clear Nn
    go_wp2_with fail
    refine Calls.mono (bitsOf_any _ zs N wc (HV.out.below hbox3.below) hN (fun z hz => ⟨HMI.out z hz, by have h1 := HR.out.2.2 z hz; have h2 := HNr.out; omega⟩)) ?_
    rintro e w6 ⟨ws, rfl, hwl, hwat, hws6, hb6⟩
    have hbox6 := hbox3.step hb6
    have HWL := hide hwl
    obtain ⟨B1, Bn1⟩ := name_it wc.heap.size
    have hl1 : w.heap.size < B1 := by rw [Bn1.out]; exact hbox3.size
    rw [← Bn1.out] at hwat hws6
    rw [← Bn1.out]
    clear hwl hb6 hbox3 Bn1
    go_wp2_with (at_make; refine wpList_make_full _ rfl _ _ 31 rfl w6.heap.size 43 i43 (.int .u64 0) 1 Try.underlying31 hi hy0 hy1 _ _ _ _ N rfl rfl rfl rfl ?b2 ?b3 (Nat.le_refl _) ?_)
    case b2 => first | (rw [hy2]; omega) | omega
    case b3 => unfold maxLen; omega
    intro w7 hown7 hgrow7
    have hb7 : Below w6.heap.size w6 w7 := (Below.refl _ _).grown hgrow7 (Nat.le_refl _) (fun k h => by cases h)
    have hs7 := (hown7.lt w6.heap.size rfl).2
    have hst0 : St2 w c0 c1 c2 B1 ws w6.heap.size (List.replicate N 0) w7 := ⟨hbox6.step hb7, hwat.below hb7 hws6, WAt.made hN hown7, hl1, hws6, hs7⟩
    obtain ⟨B2, Bn2⟩ := name_it w6.heap.size
    rw [← Bn2.out] at hst0
    rw [← Bn2.out]
    clear hown7 hgrow7 hb7 hs7 hwat hbox6 Bn2 hws6 hi hy0 hy1 hy2
    go_wp2_with fail
    go_loopw [51] (fun iv wr => ∃ (k : Nat) (xs : List Nat), k ≤ N ∧ iv = .int .i64 (k : Int) ∧ Hid (xs.length = N) ∧ Hid (∀ i, i < k → xs[i]? = some 18446744073709551615) ∧ St2 w c0 c1 c2 B1 ws B2 xs wr) (fun iv _ => N - (intOf iv).toNat)
    case atStart => exact ⟨0, List.replicate N 0, Nat.zero_le _, rfl, by show _ = _; simp, fun i hi => by omega, hst0⟩
    case round =>
      clear hst0
      obtain ⟨k, xs, hk, rfl, HSL, HON, hst⟩ := hrel
      by_cases hlt : k < N
      · have hkx : k < xs.length := by rw [HSL.out]; exact hlt
        have hcx := hst.w2.cell k hkx
        have hfx := hst.w2.frozen k hkx
        have HON' := hide (ones_step HON.out hkx)
        clear HON
        go_wp2_with fail
        go_roundw
        case rel => exact ⟨k + 1, _, by omega, by go_num, by show _ = _; rw [List.length_set]; exact HSL.out, HON', hst.ones hkx⟩
        case measure => simp [intOf]; omega
      · have hkN : Hid (k = N) := by unfold Hid; omega
        have e0 := hst.box.b0
        have e1 := hst.box.b1
        have e2 := hst.box.b2
        go_wp2_with fail
        refine Calls.mono (toProject_any (n + 1) q c0 c1 c2 wr (InM.below (n + 1) HQ.out hst.box.below) HWb.out) ?_
        rintro e w11 ⟨p0, p1, p2, p3, rfl, hpm, hb11⟩
        have hs2 := hst.s2
        have hl2 := hst.l2
        have hst11 : St2 w c0 c1 c2 B1 ws B2 xs w11 := ⟨hst.box.step hb11, hst.w1.below hb11 (by omega), hst.w2.below hb11 hs2, hst.l1, hst.l2, Nat.lt_of_lt_of_le hs2 hb11.size⟩
        obtain ⟨t6, xa, xn, xc, ya, yn, yc, rfl, rfl, rfl, rfl⟩ := PM.shape _ hpm
        have HPM := hide hpm
        clear e0 e1 e2 hb11 hst hpm hs2 hl2 hk hlt
        go_wp2_with fail
        have hal := (Below.refl w11.heap.size w11).alloc (Nat.le_refl _) (.cells #[.int .i64 t6, .slice xa xn xc, .slice ya yn yc, .slice none 0 0] 36)
        have hst12 : St2 w c0 c1 c2 B1 ws B2 xs (w11.alloc (.cells #[.int .i64 t6, .slice xa xn xc, .slice ya yn yc, .slice none 0 0] 36)) := ⟨hst11.box.step hal, hst11.w1.below hal (by have := hst11.l2; have := hst11.s2; omega), hst11.w2.below hal hst11.s2, hst11.l1, hst11.l2, Nat.lt_of_lt_of_le hst11.s2 hal.size⟩
        have HP12 := hide (PM.keep (n + 1) HPM.out (From.of_below hal))
        have f0 : (w11.alloc (.cells #[.int .i64 t6, .slice xa xn xc, .slice ya yn yc, .slice none 0 0] 36)).cell? ⟨w11.heap.size, 0, none⟩ = some (.int .i64 t6) := by rw [World.cell?_alloc_at _ _ _ _ rfl]; rfl
        have f1 : (w11.alloc (.cells #[.int .i64 t6, .slice xa xn xc, .slice ya yn yc, .slice none 0 0] 36)).cell? ⟨w11.heap.size, 1, none⟩ = some (.slice xa xn xc) := by rw [World.cell?_alloc_at _ _ _ _ rfl]; rfl
        have f2 : (w11.alloc (.cells #[.int .i64 t6, .slice xa xn xc, .slice ya yn yc, .slice none 0 0] 36)).cell? ⟨w11.heap.size, 2, none⟩ = some (.slice ya yn yc) := by rw [World.cell?_alloc_at _ _ _ _ rfl]; rfl
        generalize w11.alloc (.cells #[.int .i64 t6, .slice xa xn xc, .slice ya yn yc, .slice none 0 0] 36) = w12 at *
        obtain ⟨PB, Pn⟩ := name_it w11.heap.size
        rw [← Pn.out] at f0 f1 f2
        rw [← Pn.out]
        clear hst11 hal HPM Pn
        refine Calls.mono (zzMet_any ws _ (r : Int) (by rw [HWL.out]; exact HNr.out) (n + 1) q _ _ _ _ _ PB 0 w12 HP12.out f0 f1 f2 (hst12.w1.words HWL.out) HID.out HR.out.2.1 HWb.out) ?_
        rintro e w13 ⟨rfl, rfl⟩
        have HNV := hide (never_iff (memb xs) (memb ws) (n + 1) q (allIn_of (fun z hz => memb_ones HON.out z (by have h1 := HNr.out; rw [hkN.out]; omega)) (n + 1) q HID.out HR.out.2.1) HWb.out HGE.out HLA.out)
        have hm2 := met_le (memb ws) (n + 1) q
        obtain ⟨mm, RM⟩ := name_it (met (memb ws) (n + 1) q)
        rw [← RM.out] at HNV hm2
        rw [← RM.out]
        go_wp2_with fail
        refine Calls.mono (zzSat_any xs _ (r : Int) (by rw [HSL.out]; exact HNr.out) (n + 1) q _ _ _ _ _ PB 0 _ HP12.out f0 f1 f2 (hst12.w2.words HSL.out) HID.out HR.out.2.1 HWb.out) ?_
        rintro e w14 ⟨rfl, m, rfl⟩
        obtain ⟨⟨ok, ex⟩, RA⟩ := name_it (sat (memb xs) (n + 1) q)
        rw [← RA.out] at HNV
        rw [← RA.out]
        have hbel := hst12.box.below
        simp only [] at HNV
        cases ok with
        | false =>
          have hm0 : mm = 0 := by
            have := HNV.out
            simp only [Bool.false_eq_true, iff_false, ne_eq, Decidable.not_not] at this
            exact this
          subst hm0
          clear hm2
          go_wp2_with fail
          go_ret
          exact ⟨rfl, below_drewN hbel _⟩
        | true =>
          have hm0 : mm ≠ 0 := HNV.out.2 rfl
          rcases (show mm = 1 ∨ mm = 2 by omega) with rfl | rfl
          · clear hm0 hm2
            go_wp2_with fail
            go_ret
            exact ⟨rfl, below_drewN hbel _⟩
          · clear hm0 hm2
            go_wp2_with fail
            go_ret
            exact ⟨rfl, below_drewN hbel _⟩
end Go.Proofs.Qxb6001451a
