import Derived.Test.Qxb6001451aSets
import Derived.Deep.DeepCutAuto
import Derived.Deep.DrawnRows
namespace Go.Proofs.Qxb6001451a
open Go.RowKit
attribute [local go_sem ↓] Go.wp_at_zero Go.wp_at_succ

theorem ints_len {w : World} {v : Value} {zs : List Int} (h : Ints w v zs) : zs.length ≤ 9223372036854775807 := by
  obtain ⟨_, a, cap, _, h1, h2, _⟩ := h
  unfold maxLen at h2
  omega

theorem cut_words3 {n : Nat} {q : QT n} {z1 z2 z3 : List Int} {c0 c1 c2 : Value} {w wx : World} {r1 r2 r3 r4 : Int} (h1 : IdOk r1 ∧ 0 ≤ r1 ∧ ∀ z ∈ z1, z ≤ r1) (h2 : IdOk r2 ∧ r1 ≤ r2 ∧ ∀ z ∈ z2, z ≤ r2) (h3 : IdOk r3 ∧ r2 ≤ r3 ∧ ∀ z ∈ z3, z ≤ r3)
    (h4 : IdOk r4 ∧ r3 ≤ r4 ∧ QMax n q r4) (hb : Box w c0 c1 c2 wx) :
    ∃ r : Nat, Value.int .i64 (r4 / 64 + 1) = .int .i64 ((r / 64 + 1 : Nat) : Int) ∧ Hid (r < 65536 ∧ QMax n q (r : Int) ∧ (∀ z ∈ z1, z ≤ (r : Int)) ∧ (∀ z ∈ z2, z ≤ (r : Int)) ∧ ∀ z ∈ z3, z ≤ (r : Int)) ∧ Box w c0 c1 c2 wx := by
  obtain ⟨⟨g1, g2⟩, g3, g4⟩ := h4
  obtain ⟨r, rfl⟩ := Int.eq_ofNat_of_zero_le g1
  have e1 := h1.2.2
  have e2 := h2.2.2
  have e3 := h3.2.2
  have f2 := h2.2.1
  have f3 := h3.2.1
  refine ⟨r, by congr 1, ⟨by omega, g4, fun z hz => by have := e1 z hz; omega, fun z hz => by have := e2 z hz; omega, fun z hz => by have := e3 z hz; omega⟩, hb⟩

/-- The law's three sets: w, sa, sb. -/
structure St3 (w : World) (c0 c1 c2 : Value) (B1 : Nat) (ws : List Nat) (B2 : Nat) (sa : List Nat) (B3 : Nat) (sb : List Nat) (wr : World) : Prop where
  box : Box w c0 c1 c2 wr
  w1 : WAt wr B1 ws
  w2 : WAt wr B2 sa
  w3 : WAt wr B3 sb
  l1 : w.heap.size < B1
  l2 : B1 < B2
  l3 : B2 < B3
  s3 : B3 < wr.heap.size
theorem St3.drewN {w : World} {c0 c1 c2 : Value} {B1 : Nat} {ws : List Nat} {B2 : Nat} {sa : List Nat} {B3 : Nat} {sb : List Nat} {wr : World} (h : St3 w c0 c1 c2 B1 ws B2 sa B3 sb wr) (m : Nat) : St3 w c0 c1 c2 B1 ws B2 sa B3 sb (wr.drewN m) :=
  ⟨h.box.drewN m, h.w1.drewN m, h.w2.drewN m, h.w3.drewN m, h.l1, h.l2, h.l3, h.s3⟩
theorem St3.put {w : World} {c0 c1 c2 : Value} {B1 : Nat} {ws : List Nat} {B2 : Nat} {sa : List Nat} {B3 : Nat} {sb : List Nat} {wr : World} (h : St3 w c0 c1 c2 B1 ws B2 sa B3 sb wr) {j x : Nat} (hj : j < sb.length) (hx : x < 18446744073709551616) (z : Nat) :
    St3 w c0 c1 c2 B1 ws B2 sa B3 (sb.set j (x ||| 2 ^ (z % 64))) (wr.setCell ⟨B3, j, none⟩ (.int .u64 (bits .or .u64 (x : Int) ((2 : Int) ^ (z % 64))))).drew :=
  ⟨(h.box.set (by have := h.l1; have := h.l2; have := h.l3; omega) _).drew, (h.w1.other (by have := h.l2; have := h.l3; omega) _).drew, (h.w2.other (by have := h.l3; omega) _).drew, h.w3.or_at hj hx z _ rfl, h.l1, h.l2, h.l3, by simpa [World.setCell] using h.s3⟩

theorem St3.not2 {w : World} {c0 c1 c2 : Value} {B1 : Nat} {ws : List Nat} {B2 : Nat} {sa : List Nat} {B3 : Nat} {sb : List Nat} {wr : World} (h : St3 w c0 c1 c2 B1 ws B2 sa B3 sb wr) {j x y : Nat} (hj : j < sa.length) (hx : x < 18446744073709551616) (hy : y < 18446744073709551616) :
    St3 w c0 c1 c2 B1 ws B2 (sa.set j (x ||| (18446744073709551615 - y))) B3 sb (wr.setCell ⟨B2, j, none⟩ (.int .u64 (bits .or .u64 (x : Int) (bits .xor .u64 IntKind.u64.max (y : Int))))).drew :=
  ⟨(h.box.set (by have := h.l1; have := h.l2; omega) _).drew, (h.w1.other (by have := h.l2; omega) _).drew, h.w2.not_at hj hx hy, (h.w3.other (by have := h.l3; omega) _).drew, h.l1, h.l2, h.l3, by simpa [World.setCell] using h.s3⟩
theorem St3.not3 {w : World} {c0 c1 c2 : Value} {B1 : Nat} {ws : List Nat} {B2 : Nat} {sa : List Nat} {B3 : Nat} {sb : List Nat} {wr : World} (h : St3 w c0 c1 c2 B1 ws B2 sa B3 sb wr) {j x y : Nat} (hj : j < sb.length) (hx : x < 18446744073709551616) (hy : y < 18446744073709551616) :
    St3 w c0 c1 c2 B1 ws B2 sa B3 (sb.set j (x ||| (18446744073709551615 - y))) (wr.setCell ⟨B3, j, none⟩ (.int .u64 (bits .or .u64 (x : Int) (bits .xor .u64 IntKind.u64.max (y : Int))))).drew :=
  ⟨(h.box.set (by have := h.l1; have := h.l2; have := h.l3; omega) _).drew, (h.w1.other (by have := h.l2; have := h.l3; omega) _).drew, (h.w2.other (by have := h.l3; omega) _).drew, h.w3.not_at hj hx hy, h.l1, h.l2, h.l3, by simpa [World.setCell] using h.s3⟩

theorem apart_of {A B W : Nat → Bool} (h : ∀ y, W y = true → ¬ (A y = true ∧ B y = true)) : ∀ (n : Nat) (q : QT n), Apart A B W n q
  | 0, _ => trivial
  | n + 1, _ => ⟨fun _ _ hw => h _ hw, fun x _ => apart_of h n x⟩

theorem disj_put {sa sb : List Nat} {z : Nat} (h : ∀ y, ¬ (memb sa y = true ∧ memb sb y = true)) (hz : z / 64 < sb.length) (hm : memb sa z = false) : ∀ y, ¬ (memb sa y = true ∧ memb (sb.set (z / 64) (sb[z / 64] ||| 2 ^ (z % 64))) y = true) := by
  intro y hy
  rw [memb_or sb z hz y, Bool.or_eq_true] at hy
  rcases hy.2 with g | g
  · exact h y ⟨hy.1, g⟩
  · have e : y = z := by simpa using g
    rw [e, hm] at hy
    exact absurd hy.1 (by simp)

theorem memb_zero (n y : Nat) : memb (List.replicate n 0) y = false := by
  unfold memb
  by_cases h : y / 64 < n
  · simp [h]
  · simp [h]

theorem elem_at {w wr : World} {a : Option Addr} {M c : Nat} {zs : List Int} {k : Nat} {r : Int} (h : Ints w (.slice a M c) zs) (hb : Below w.heap.size w wr) (hk : k < zs.length) (hi : IdOk zs[k]) (hr : zs[k] ≤ r) :
    ∃ (z : Nat) (b off : Nat), a = some ⟨b, off, none⟩ ∧ Hid (wr.cell? ⟨b, off + k, none⟩ = some (.int .i64 (z : Int))) ∧ Hid (z < 65536 ∧ (z : Int) ≤ r) := by
  obtain ⟨_, a', cap, e, _, _, _, hc⟩ := h
  injection e with e1 e2 e3
  obtain ⟨b, off, ea, hcell⟩ := hc k hk
  obtain ⟨g1, g2⟩ := hi
  refine ⟨zs[k].toNat, b, off, e1.trans ea, ?_, by omega, by omega⟩
  show _ = _
  rw [Int.toNat_of_nonneg g1]
  exact (hb.cell (p := ⟨b, off + k, none⟩) (World.block_lt_of_cell? w _ hcell)).trans hcell

/-- The law's own sets: w at block B1, sa at block B2. -/
structure St2 (w : World) (c0 c1 c2 : Value) (B1 : Nat) (ws : List Nat) (B2 : Nat) (sa : List Nat) (wr : World) : Prop where
  box : Box w c0 c1 c2 wr
  w1 : WAt wr B1 ws
  w2 : WAt wr B2 sa
  l1 : w.heap.size < B1
  l2 : B1 < B2
  s2 : B2 < wr.heap.size
theorem St2.drewN {w : World} {c0 c1 c2 : Value} {B1 : Nat} {ws : List Nat} {B2 : Nat} {sa : List Nat} {wr : World} (h : St2 w c0 c1 c2 B1 ws B2 sa wr) (m : Nat) : St2 w c0 c1 c2 B1 ws B2 sa (wr.drewN m) :=
  ⟨h.box.drewN m, h.w1.drewN m, h.w2.drewN m, h.l1, h.l2, h.s2⟩
/-- 'sa[z/64] |= bit(z)'. -/
theorem St2.put {w : World} {c0 c1 c2 : Value} {B1 : Nat} {ws : List Nat} {B2 : Nat} {sa : List Nat} {wr : World} (h : St2 w c0 c1 c2 B1 ws B2 sa wr) {j x : Nat} (hj : j < sa.length) (hx : x < 18446744073709551616) (z : Nat) :
    St2 w c0 c1 c2 B1 ws B2 (sa.set j (x ||| 2 ^ (z % 64))) (wr.setCell ⟨B2, j, none⟩ (.int .u64 (bits .or .u64 (x : Int) ((2 : Int) ^ (z % 64))))).drew :=
  ⟨(h.box.set (by have := h.l1; have := h.l2; omega) _).drew, (h.w1.other (by have := h.l2; omega) _).drew, h.w2.or_at hj hx z _ rfl, h.l1, h.l2, by simpa [World.setCell] using h.s2⟩

set_option maxHeartbeats 6400000 in
set_option maxRecDepth 100000 in
theorem lawT (n : Nat) (q : QT n) (c0 c1 c2 v1 v2 v3 : Value) (z1 z2 z3 : List Int) (w : World) (hq : InM n w q c0 c1 c2) (hv1 : Ints w v1 z1) (hv2 : Ints w v2 z2) (hv3 : Ints w v3 z3) :
    Calls Try.prog 6 #[.agg #[c0, c1, c2], v1, v2, v3] w fun e w' => e = .returned (.bool true) ∧ Below w.heap.size w w' := by
  cases n with
  | zero => exact absurd hq id
  | succ n =>
  have HQ := hide hq
  have HV1 := hide hv1
  have HV2 := hide hv2
  have HV3 := hide hv3
  have b1 := ints_len hv1
  have b2 := ints_len hv2
  have b3 := ints_len hv3
  obtain ⟨M1, n1⟩ := name_it z1.length
  obtain ⟨M2, n2⟩ := name_it z2.length
  obtain ⟨M3, n3⟩ := name_it z3.length
  obtain ⟨_, a1, k1, rfl, _⟩ := hv1
  obtain ⟨_, a2, k2, rfl, _⟩ := hv2
  obtain ⟨_, a3, k3, rfl, _⟩ := hv3
  rw [← n1.out] at HV1 b1
  rw [← n2.out] at HV2 b2
  rw [← n3.out] at HV3 b3
  rw [← n1.out, ← n2.out, ← n3.out]
  clear hq
  by_cases hM1 : 131072 < M1
  · go_enter Try.func6, Try.ntmps6
    go_wp2_with fail
    go_ret
    exact ⟨rfl, (Box.start w c0 c1 c2 25).below⟩
  by_cases hM2 : 131072 < M2
  · have d1 : decide ((131072 : Int) < (M1 : Int)) = false := by rw [decide_eq_false_iff_not]; omega
    have d2 : M1 ≤ 131072 := by omega
    clear hM1
    go_enter Try.func6, Try.ntmps6
    go_wp2_with fail
    go_ret
    exact ⟨rfl, (Box.start w c0 c1 c2 25).below⟩
  by_cases hM3 : 131072 < M3
  · have d1 : decide ((131072 : Int) < (M1 : Int)) = false := by rw [decide_eq_false_iff_not]; omega
    have d3 : decide ((131072 : Int) < (M2 : Int)) = false := by rw [decide_eq_false_iff_not]; omega
    have d2 : M1 ≤ 131072 := by omega
    have d4 : M2 ≤ 131072 := by omega
    clear hM1 hM2
    go_enter Try.func6, Try.ntmps6
    go_wp2_with fail
    go_ret
    exact ⟨rfl, (Box.start w c0 c1 c2 25).below⟩
  have d1 : decide ((131072 : Int) < (M1 : Int)) = false := by rw [decide_eq_false_iff_not]; omega
  have d3 : decide ((131072 : Int) < (M2 : Int)) = false := by rw [decide_eq_false_iff_not]; omega
  have d5 : decide ((131072 : Int) < (M3 : Int)) = false := by rw [decide_eq_false_iff_not]; omega
  have d2 : M1 ≤ 131072 := by omega
  have d4 : M2 ≤ 131072 := by omega
  have d6 : M3 ≤ 131072 := by omega
  clear hM1 hM2 hM3 b1 b2 b3
  go_enter Try.func6, Try.ntmps6
  go_wp2_with fail
  have hbox0 := Box.start w c0 c1 c2 25
  refine Calls.mono (qsBytes_any (n + 1) q c0 c1 c2 _ _ (InM.below (n + 1) HQ.out hbox0.below) (by omega) (by omega)) ?_
  rintro e w1 ⟨⟨r, rfl, hr⟩, hb1⟩
  have hbox1 := hbox0.step hb1
  clear hbox0 hb1
  rcases hr with rfl | ⟨rfl, hle⟩
  · go_wp2_with fail
    go_ret
    exact ⟨rfl, hbox1.below⟩
  obtain ⟨W, Wn⟩ := name_it (wt (n + 1) q)
  rw [← Wn.out] at hle ⊢
  have HWb : Hid (wt (n + 1) q ≤ 1048576) := by rw [← Wn.out]; unfold Hid; omega
  have hW0 : decide ((W : Int) < 0) = false := by rw [decide_eq_false_iff_not]; omega
  have e0 := hbox1.b0
  have e1 := hbox1.b1
  have e2 := hbox1.b2
  go_wp2_with fail
  refine Calls.mono (qsIdsFit_any (n + 1) q c0 c1 c2 w1 (InM.below (n + 1) HQ.out hbox1.below)) ?_
  rintro e w2 ⟨⟨b, rfl, hids⟩, hb2⟩
  have hbox2 := hbox1.step hb2
  clear e0 e1 e2 hbox1 hb2
  cases b with
  | false =>
    clear hids
    go_wp2_with fail
    go_ret
    exact ⟨rfl, hbox2.below⟩
  | true =>
  have HID := hide (hids rfl)
  clear hids
  go_wp2_with fail
  refine Calls.mono (idsFit_any _ z1 w2 (HV1.out.below hbox2.below)) ?_
  rintro e w3 ⟨⟨b, rfl, hmem⟩, rfl⟩
  cases b with
  | false =>
    clear hmem
    go_wp2_with fail
    go_ret
    exact ⟨rfl, hbox2.below⟩
  | true =>
  have I1 := hide (hmem rfl)
  clear hmem
  go_wp2_with fail
  refine Calls.mono (idsFit_any _ z2 _ (HV2.out.below hbox2.below)) ?_
  rintro e w3 ⟨⟨b, rfl, hmem⟩, rfl⟩
  cases b with
  | false =>
    clear hmem
    go_wp2_with fail
    go_ret
    exact ⟨rfl, hbox2.below⟩
  | true =>
  have I2 := hide (hmem rfl)
  clear hmem
  go_wp2_with fail
  refine Calls.mono (idsFit_any _ z3 _ (HV3.out.below hbox2.below)) ?_
  rintro e w3 ⟨⟨b, rfl, hmem⟩, rfl⟩
  cases b with
  | false =>
    clear hmem
    go_wp2_with fail
    go_ret
    exact ⟨rfl, hbox2.below⟩
  | true =>
  have I3 := hide (hmem rfl)
  clear hmem
  have e0 := hbox2.b0
  have e1 := hbox2.b1
  have e2 := hbox2.b2
  go_wp2_with fail
  go_cut [9] (fun wd wx => ∃ r : Nat, wd = .int .i64 ((r / 64 + 1 : Nat) : Int) ∧ Hid (r < 65536 ∧ QMax (n + 1) q (r : Int) ∧ (∀ z ∈ z1, z ≤ (r : Int)) ∧ (∀ z ∈ z2, z ≤ (r : Int)) ∧ ∀ z ∈ z3, z ≤ (r : Int)) ∧ Box w c0 c1 c2 wx)
  case first =>
    go_region_with (first
      | (go_at_call_of 15 a1; refine (maxID_any _ z1 0 _ ?_ I1.out ⟨by omega, by omega⟩).mono ?_; exact HV1.out.below hbox2.below.drew; rintro e w4 ⟨⟨r1, rfl, hr1⟩, rfl⟩)
      | (go_at_call_of 15 a2; refine (maxID_any _ z2 r1 _ ?_ I2.out hr1.1).mono ?_; exact HV2.out.below hbox2.below.drew; rintro e w4 ⟨⟨r2, rfl, hr2⟩, rfl⟩)
      | (go_at_call_of 15 a3; refine (maxID_any _ z3 r2 _ ?_ I3.out hr2.1).mono ?_; exact HV3.out.below hbox2.below.drew; rintro e w4 ⟨⟨r3, rfl, hr3⟩, rfl⟩)
      | (go_at_call 14; refine (qsMaxID_any (n + 1) q c0 c1 c2 _ _ ?_ HID.out hr3.1).mono ?_; exact InM.below (n + 1) HQ.out hbox2.below.drew; rintro e w5 ⟨⟨r4, rfl, hr4⟩, hb4⟩)
      | (go_at_call 13; refine (wordsFor_any _ _ hr4.1).mono ?_; rintro e w6 ⟨rfl, rfl⟩))
    all_goals
      go_wp2_with fail
      go_meet
      case rel => exact cut_words3 hr1 hr2 hr3 hr4 (hbox2.drew.step hb4)
  case rest =>
    clear e0 e1 e2 hbox2
    obtain ⟨r, rfl, HR, hbox3⟩ := hcut
    obtain ⟨i43, hi, hy0, hy1, hy2⟩ := info_parts info43
    obtain ⟨N, Nn⟩ := name_it (r / 64 + 1)
    have hN : N ≤ 2000 := by have := HR.out.1; rw [Nn.out]; omega
    have HNr : Hid ((r : Int) / 64 < (N : Int)) := by rw [Nn.out]; unfold Hid; omega
    rw [← Nn.out]
    clear Nn
    go_wp2_with fail
    refine Calls.mono (bitsOf_any _ z1 N wc (HV1.out.below hbox3.below) hN (fun z hz => ⟨I1.out z hz, by have h1 := HR.out.2.2.1 z hz; have h2 := HNr.out; omega⟩)) ?_
    rintro e w6 ⟨ws, rfl, hwl, hwat, hws6, hb6⟩
    have hbox6 := hbox3.step hb6
    have HWL := hide hwl
    obtain ⟨B1, Bn1⟩ := name_it wc.heap.size
    have hl1 : w.heap.size < B1 := by rw [Bn1.out]; exact hbox3.size
    rw [← Bn1.out] at hwat hws6
    rw [← Bn1.out]
    clear hwl hb6 hbox3 Bn1
    go_wp2_with (at_make; refine wpList_make_full _ rfl _ _ 31 rfl w6.heap.size 43 i43 (.int .u64 0) 1 Try.underlying31 hi hy0 hy1 _ _ _ _ N rfl rfl rfl rfl ?b2 ?b3 (Nat.le_refl _) ?_)
    case b2 => first | (rw [hy2]; omega) | omega
    case b3 => unfold maxLen; omega
    intro w7 hown7 hgrow7
    have hb7 : Below w6.heap.size w6 w7 := (Below.refl _ _).grown hgrow7 (Nat.le_refl _) (fun k h => by cases h)
    have hs7 := (hown7.lt w6.heap.size rfl).2
    have hst0 : St2 w c0 c1 c2 B1 ws w6.heap.size (List.replicate N 0) w7 := ⟨hbox6.step hb7, hwat.below hb7 hws6, WAt.made hN hown7, hl1, hws6, hs7⟩
    obtain ⟨B2, Bn2⟩ := name_it w6.heap.size
    rw [← Bn2.out] at hst0
    rw [← Bn2.out]
    clear hown7 hgrow7 hb7 hs7 hwat hbox6 Bn2 hws6
    go_wp2_with fail
    go_loopw [85] (fun iv wr => ∃ (k : Nat) (sa : List Nat), k ≤ M2 ∧ iv = .int .i64 (k : Int) ∧ Hid (sa.length = N) ∧ St2 w c0 c1 c2 B1 ws B2 sa wr) (fun iv _ => M2 - (intOf iv).toNat)
    case atStart => exact ⟨0, List.replicate N 0, Nat.zero_le _, rfl, by show _ = _; simp, hst0⟩
    case round =>
      clear hst0
      obtain ⟨k, sa, hk, rfl, HSL, hst⟩ := hrel
      by_cases hlt : k < M2
      · have hlt' : k < z2.length := by rw [← n2.out]; exact hlt
        obtain ⟨z, b, off, ea, HC0, HZb⟩ := elem_at HV2.out hst.box.below hlt' (I2.out _ (List.getElem_mem hlt')) (HR.out.2.2.2.1 _ (List.getElem_mem hlt'))
        subst ea
        have hc := HC0.out
        have hzN : Hid (z / 64 < N) := by have h1 := HZb.out.2; have h2 := HNr.out; unfold Hid; omega
        have hz65 : z < 65536 := HZb.out.1
        clear HC0 HZb
        go_wp2_with fail
        refine Calls.mono (inBits_any _ ws z _ (hst.w1.words HWL.out) (by rw [HWL.out]; exact hzN.out) hz65) ?_
        rintro e w8 ⟨rfl, m, rfl⟩
        have hst8 := hst.drewN m
        generalize wr.drewN m = w8 at *
        cases hmb : memb ws z with
        | false =>
          clear hmb
          go_wp2_with fail
          go_roundw
          case rel => exact ⟨k + 1, sa, by omega, by go_num, HSL, hst8⟩
          case measure => simp [intOf]; omega
        | true =>
          clear hmb
          have hzs : z / 64 < sa.length := by rw [HSL.out]; exact hzN.out
          have hx := hst8.w2.lt _ (List.getElem_mem hzs)
          have hcx := hst8.w2.cell (z / 64) hzs
          have hfx := hst8.w2.frozen (z / 64) hzs
          obtain ⟨x, Hx⟩ := name_it sa[z / 64]
          rw [← Hx.out] at hx hcx
          have hzi : (z : Int) / 64 < (N : Int) := by have := hzN.out; omega
          have hzi0 : 0 ≤ (z : Int) / 64 := by omega
          have hq2 : (z : Int).tdiv 64 = (z : Int) / 64 := by rw [Int.tdiv_eq_ediv_of_nonneg (by omega)]
          have hq1 : IntKind.i64.wrap ((z : Int) / 64) = (z : Int) / 64 := by rw [IntKind.wrap_i64]; omega
          have hq3 : ((z : Int) / 64).toNat = z / 64 := by omega
          clear hc
          go_wp2_with fail
          go_region_with (go_at_call 20; refine (bit_any _ _ hz65).mono ?_; rintro e w' ⟨rfl, rfl⟩)
          all_goals
            go_wp2_with fail
            go_roundw
            case rel => exact ⟨k + 1, _, by omega, by go_num, by show _ = _; rw [List.length_set]; exact HSL.out, hst8.put hzs hx z⟩
            case measure => simp [intOf]; omega
      · go_wp2_with (at_make; refine wpList_make_full _ rfl _ _ 31 rfl wr.heap.size 43 i43 (.int .u64 0) 1 Try.underlying31 hi hy0 hy1 _ _ _ _ N rfl rfl rfl rfl ?d2 ?d3 (Nat.le_refl _) ?_)
        case d2 => first | (rw [hy2]; omega) | omega
        case d3 => unfold maxLen; omega
        intro w9 hown9 hgrow9
        have hb9 : Below wr.heap.size wr w9 := (Below.refl _ _).grown hgrow9 (Nat.le_refl _) (fun k h => by cases h)
        have hs9 := (hown9.lt wr.heap.size rfl).2
        have hst0 : St3 w c0 c1 c2 B1 ws B2 sa wr.heap.size (List.replicate N 0) w9 := ⟨hst.box.step hb9, hst.w1.below hb9 (Nat.lt_trans hst.l2 hst.s2), hst.w2.below hb9 hst.s2, WAt.made hN hown9, hst.l1, hst.l2, hst.s2, hs9⟩
        obtain ⟨B3, Bn3⟩ := name_it wr.heap.size
        rw [← Bn3.out] at hst0
        rw [← Bn3.out]
        clear hown9 hgrow9 hb9 hs9 Bn3 hst hi hy0 hy1 hy2 hk hlt
        go_wp2_with fail
        go_loopw [106] (fun iv wr => ∃ (k : Nat) (sb : List Nat), k ≤ M3 ∧ iv = .int .i64 (k : Int) ∧ Hid (sb.length = N) ∧ Hid (∀ y, ¬ (memb sa y = true ∧ memb sb y = true)) ∧ St3 w c0 c1 c2 B1 ws B2 sa B3 sb wr) (fun iv _ => M3 - (intOf iv).toNat)
        case atStart => exact ⟨0, List.replicate N 0, Nat.zero_le _, rfl, by show _ = _; simp, by intro y hy; rw [memb_zero] at hy; exact absurd hy.2 (by simp), hst0⟩
        case round =>
          clear hst0
          obtain ⟨k, sb, hk, rfl, HTL, HDJ, hst⟩ := hrel
          by_cases hlt : k < M3
          · have hlt' : k < z3.length := by rw [← n3.out]; exact hlt
            obtain ⟨z, b, off, ea, HC0, HZb⟩ := elem_at HV3.out hst.box.below hlt' (I3.out _ (List.getElem_mem hlt')) (HR.out.2.2.2.2 _ (List.getElem_mem hlt'))
            subst ea
            have hc := HC0.out
            have hzN : Hid (z / 64 < N) := by have h1 := HZb.out.2; have h2 := HNr.out; unfold Hid; omega
            have hz65 : z < 65536 := HZb.out.1
            clear HC0 HZb
            go_wp2_with fail
            refine Calls.mono (inBits_any _ ws z _ (hst.w1.words HWL.out) (by rw [HWL.out]; exact hzN.out) hz65) ?_
            rintro e w8 ⟨rfl, m, rfl⟩
            have hst8 := hst.drewN m
            generalize wr.drewN m = w8 at *
            clear hst hc
            cases hmb : memb ws z with
            | false =>
              clear hmb
              go_wp2_with fail
              go_roundw
              case rel => exact ⟨k + 1, sb, by omega, by go_num, HTL, HDJ, hst8⟩
              case measure => simp [intOf]; omega
            | true =>
              clear hmb
              go_wp2_with fail
              refine Calls.mono (inBits_any _ sa z _ (hst8.w2.words HSL.out) (by rw [HSL.out]; exact hzN.out) hz65) ?_
              rintro e w9' ⟨rfl, m2, rfl⟩
              have hst9 := hst8.drewN m2
              generalize w8.drewN m2 = w9' at *
              clear hst8
              cases hmb : memb sa z with
              | true =>
                clear hmb
                go_wp2_with fail
                go_roundw
                case rel => exact ⟨k + 1, sb, by omega, by go_num, HTL, HDJ, hst9⟩
                case measure => simp [intOf]; omega
              | false =>
                have hzs : z / 64 < sb.length := by rw [HTL.out]; exact hzN.out
                have HDJ' := hide (disj_put HDJ.out hzs hmb)
                have hx := hst9.w3.lt _ (List.getElem_mem hzs)
                have hcx := hst9.w3.cell (z / 64) hzs
                have hfx := hst9.w3.frozen (z / 64) hzs
                obtain ⟨x, Hx⟩ := name_it sb[z / 64]
                rw [← Hx.out] at hx hcx HDJ'
                have hzi : (z : Int) / 64 < (N : Int) := by have := hzN.out; omega
                have hzi0 : 0 ≤ (z : Int) / 64 := by omega
                have hq2 : (z : Int).tdiv 64 = (z : Int) / 64 := by rw [Int.tdiv_eq_ediv_of_nonneg (by omega)]
                have hq1 : IntKind.i64.wrap ((z : Int) / 64) = (z : Int) / 64 := by rw [IntKind.wrap_i64]; omega
                have hq3 : ((z : Int) / 64).toNat = z / 64 := by omega
                clear hmb
                go_wp2_with fail
                go_region_with (go_at_call 20; refine (bit_any _ _ hz65).mono ?_; rintro e w' ⟨rfl, rfl⟩)
                all_goals
                  go_wp2_with fail
                  go_roundw
                  case rel => exact ⟨k + 1, _, by omega, by go_num, by show _ = _; rw [List.length_set]; exact HTL.out, HDJ', hst9.put hzs hx z⟩
                  case measure => simp [intOf]; omega
          · go_wp2_with fail
            clear hk hlt
            go_loopw [17] (fun iv wr => ∃ (j : Nat) (ta tb : List Nat), j ≤ N ∧ iv = .int .i64 (j : Int) ∧ Hid (ta.length = N ∧ tb.length = N) ∧ Hid (∀ y, memb ws y = true → memb ta y = memb sa y ∧ memb tb y = memb sb y) ∧ St3 w c0 c1 c2 B1 ws B2 ta B3 tb wr) (fun iv _ => N - (intOf iv).toNat)
            case atStart => exact ⟨0, sa, sb, Nat.zero_le _, rfl, ⟨HSL.out, HTL.out⟩, fun _ _ => ⟨rfl, rfl⟩, hst⟩
            case round =>
              clear hst
              obtain ⟨j, ta, tb, hj, rfl, HL2, HEQ, hst⟩ := hrel
              by_cases hlt : j < N
              · have hja : j < ta.length := by rw [HL2.out.1]; exact hlt
                have hjb : j < tb.length := by rw [HL2.out.2]; exact hlt
                have hjw : j < ws.length := by rw [HWL.out]; exact hlt
                have hxa := hst.w2.lt _ (List.getElem_mem hja)
                have hxw := hst.w1.lt _ (List.getElem_mem hjw)
                have ca := hst.w2.cell j hja
                have cw := hst.w1.cell j hjw
                have fa := hst.w2.frozen j hja
                obtain ⟨xa, Ha⟩ := name_it ta[j]
                obtain ⟨xw, Hw⟩ := name_it ws[j]
                rw [← Ha.out] at ca hxa
                rw [← Hw.out] at cw hxw
                go_wp2_with fail
                go_region
                go_wp2_with fail
                have hst10 := hst.not2 hja hxa hxw
                have hxb := hst10.w3.lt _ (List.getElem_mem hjb)
                have cb := hst10.w3.cell j hjb
                have cw2 := hst10.w1.cell j hjw
                have fb := hst10.w3.frozen j hjb
                obtain ⟨xb, Hb⟩ := name_it tb[j]
                rw [← Hb.out] at cb hxb
                rw [← Hw.out] at cw2
                generalize (wr.setCell ⟨B2, j, none⟩ (.int .u64 (bits .or .u64 (xa : Int) (bits .xor .u64 IntKind.u64.max (xw : Int))))).drew = w10 at *
                have HEQ' : Hid (∀ y, memb ws y = true → memb (ta.set j (xa ||| (18446744073709551615 - xw))) y = memb sa y ∧ memb (tb.set j (xb ||| (18446744073709551615 - xw))) y = memb sb y) := by
                  intro y hy
                  obtain ⟨g1, g2⟩ := HEQ.out y hy
                  have q1 := memb_not ws ta j hja hjw (by rw [← Hw.out]; exact hxw) y hy
                  have q2 := memb_not ws tb j hjb hjw (by rw [← Hw.out]; exact hxw) y hy
                  rw [← Ha.out, ← Hw.out] at q1
                  rw [← Hb.out, ← Hw.out] at q2
                  exact ⟨q1.trans g1, q2.trans g2⟩
                clear ca cw fa hst HEQ
                go_region
                go_wp2_with fail
                go_roundw
                case rel => exact ⟨j + 1, _, _, by omega, by go_num, ⟨by rw [List.length_set]; exact HL2.out.1, by rw [List.length_set]; exact HL2.out.2⟩, HEQ', hst10.not3 hjb hxb hxw⟩
                case measure => simp [intOf]; omega
              · have e0 := hst.box.b0
                have e1 := hst.box.b1
                have e2 := hst.box.b2
                have HAP : Hid (∀ y, memb ws y = true → ¬ (memb ta y = true ∧ memb tb y = true)) := by
                  intro y hy g
                  obtain ⟨g1, g2⟩ := HEQ.out y hy
                  rw [g1, g2] at g
                  exact HDJ.out y g
                clear HEQ HDJ
                go_wp2_with fail
                refine Calls.mono (toProject_any (n + 1) q c0 c1 c2 wr (InM.below (n + 1) HQ.out hst.box.below) HWb.out) ?_
                rintro e w11 ⟨p0, p1, p2, p3, rfl, hpm, hb11⟩
                have hs3 := hst.s3
                have hl2 := hst.l2
                have hl3 := hst.l3
                have hst11 : St3 w c0 c1 c2 B1 ws B2 ta B3 tb w11 := ⟨hst.box.step hb11, hst.w1.below hb11 (by omega), hst.w2.below hb11 (by omega), hst.w3.below hb11 hs3, hst.l1, hst.l2, hst.l3, Nat.lt_of_lt_of_le hs3 hb11.size⟩
                obtain ⟨t6, xa, xn, xc, ya, yn, yc, rfl, rfl, rfl, rfl⟩ := PM.shape _ hpm
                have HPM := hide hpm
                clear e0 e1 e2 hb11 hst hpm hs3 hl2 hl3
                go_wp2_with fail
                have hal := (Below.refl w11.heap.size w11).alloc (Nat.le_refl _) (.cells #[.int .i64 t6, .slice xa xn xc, .slice ya yn yc, .slice none 0 0] 36)
                have hst12 : St3 w c0 c1 c2 B1 ws B2 ta B3 tb (w11.alloc (.cells #[.int .i64 t6, .slice xa xn xc, .slice ya yn yc, .slice none 0 0] 36)) := ⟨hst11.box.step hal, hst11.w1.below hal (by have := hst11.l2; have := hst11.l3; have := hst11.s3; omega), hst11.w2.below hal (by have := hst11.l3; have := hst11.s3; omega), hst11.w3.below hal hst11.s3, hst11.l1, hst11.l2, hst11.l3, Nat.lt_of_lt_of_le hst11.s3 hal.size⟩
                have HP12 := hide (PM.keep (n + 1) HPM.out (From.of_below hal))
                have f0 : (w11.alloc (.cells #[.int .i64 t6, .slice xa xn xc, .slice ya yn yc, .slice none 0 0] 36)).cell? ⟨w11.heap.size, 0, none⟩ = some (.int .i64 t6) := by rw [World.cell?_alloc_at _ _ _ _ rfl]; rfl
                have f1 : (w11.alloc (.cells #[.int .i64 t6, .slice xa xn xc, .slice ya yn yc, .slice none 0 0] 36)).cell? ⟨w11.heap.size, 1, none⟩ = some (.slice xa xn xc) := by rw [World.cell?_alloc_at _ _ _ _ rfl]; rfl
                have f2 : (w11.alloc (.cells #[.int .i64 t6, .slice xa xn xc, .slice ya yn yc, .slice none 0 0] 36)).cell? ⟨w11.heap.size, 2, none⟩ = some (.slice ya yn yc) := by rw [World.cell?_alloc_at _ _ _ _ rfl]; rfl
                generalize w11.alloc (.cells #[.int .i64 t6, .slice xa xn xc, .slice ya yn yc, .slice none 0 0] 36) = w12 at *
                obtain ⟨PB, Pn⟩ := name_it w11.heap.size
                rw [← Pn.out] at f0 f1 f2
                rw [← Pn.out]
                clear hst11 hal HPM Pn
                refine Calls.mono (zzSat_any ta _ (r : Int) (by rw [HL2.out.1]; exact HNr.out) (n + 1) q _ _ _ _ _ PB 0 w12 HP12.out f0 f1 f2 (hst12.w2.words HL2.out.1) HID.out HR.out.2.1 HWb.out) ?_
                rintro e w13 ⟨rfl, m, rfl⟩
                obtain ⟨⟨okA, exA⟩, RA⟩ := name_it (sat (memb ta) (n + 1) q)
                rw [← RA.out]
                go_wp2_with fail
                refine Calls.mono (zzSat_any tb _ (r : Int) (by rw [HL2.out.2]; exact HNr.out) (n + 1) q _ _ _ _ _ PB 0 (w12.drewN m) (PM.keep (n + 1) HP12.out (From.drewN w12 m)) f0 f1 f2 ((hst12.w3.words HL2.out.2).drewN m) HID.out HR.out.2.1 HWb.out) ?_
                rintro e w14 ⟨rfl, m2, rfl⟩
                obtain ⟨⟨okB, exB⟩, RB⟩ := name_it (sat (memb tb) (n + 1) q)
                rw [← RB.out]
                have hbel := hst12.box.below
                cases okA with
                | false =>
                  go_wp2_with fail
                  go_ret
                  exact ⟨rfl, below_drewN hbel _⟩
                | true =>
                  cases okB with
                  | false =>
                    go_wp2_with fail
                    go_ret
                    exact ⟨rfl, below_drewN hbel _⟩
                  | true =>
                    have HMT : Hid (met (memb ws) (n + 1) q = 2) := (twice_of (memb ta) (memb tb) (memb ws) (n + 1) q (apart_of HAP.out (n + 1) q) HWb.out).2 ⟨by rw [← RA.out], by rw [← RB.out]⟩
                    go_wp2_with fail
                    refine Calls.mono (zzMet_any ws _ (r : Int) (by rw [HWL.out]; exact HNr.out) (n + 1) q _ _ _ _ _ PB 0 (w12.drewN (m + m2)) (PM.keep (n + 1) HP12.out (From.drewN w12 (m + m2))) f0 f1 f2 ((hst12.w1.words HWL.out).drewN (m + m2)) HID.out HR.out.2.1 HWb.out) ?_
                    rw [HMT.out]
                    rintro e w15 ⟨rfl, rfl⟩
                    go_wp2_with fail
                    go_ret
                    exact ⟨rfl, below_drewN hbel _⟩
end Go.Proofs.Qxb6001451a
