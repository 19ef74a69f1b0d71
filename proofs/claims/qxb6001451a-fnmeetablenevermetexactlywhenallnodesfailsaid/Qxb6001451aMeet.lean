import Derived.Test.Qxb6001451aSat
namespace Go.Proofs.Qxb6001451a
open Go.RowKit

/-! ### THE PLAIN FUNCTION -/
def cnt {α : Type} (p : α → Bool) (l : List α) : Nat := (l.filter p).length
theorem cnt_nil {α : Type} (p : α → Bool) : cnt p [] = 0 := rfl
theorem cnt_take {α : Type} (p : α → Bool) (l : List α) (k : Nat) (h : k < l.length) : cnt p (l.take (k + 1)) = cnt p (l.take k) + if p l[k] then 1 else 0 := by
  unfold cnt
  rw [List.take_succ_eq_append_getElem h, List.filter_append, List.length_append]
  by_cases hp : p l[k] = true
  · simp [hp]
  · simp [hp]
theorem cnt_le {α : Type} (p : α → Bool) (l : List α) : cnt p l ≤ l.length := List.length_filter_le _ _
theorem cnt_cons {α : Type} (p : α → Bool) (a : α) (l : List α) : cnt p (a :: l) = cnt p l + if p a then 1 else 0 := by
  unfold cnt
  by_cases hp : p a = true
  · simp [hp]
  · simp [hp]

def verdict (t : Int) (both one : Nat) : Nat :=
  if t ≤ (both : Int) ∨ wrap64 (2 * (t - (both : Int))) ≤ (one : Int) then 2 else if t ≤ (both : Int) + (one : Int) then 1 else 0
theorem verdict_le (t : Int) (a b : Nat) : verdict t a b ≤ 2 := by
  unfold verdict
  split
  · omega
  · split <;> omega

def met (W : Nat → Bool) : (n : Nat) → QT n → Nat
  | 0, _ => 0
  | n + 1, q => verdict (thr q) (cnt (fun z => !W (Int.toNat z)) (vals q) + cnt (fun x => met W n x == 2) (inn q)) (cnt (fun z => W (Int.toNat z)) (vals q) + cnt (fun x => met W n x == 1) (inn q))
theorem met_le (W : Nat → Bool) : ∀ (n : Nat) (q : QT n), met W n q ≤ 2
  | 0, _ => by simp [met]
  | n + 1, q => verdict_le _ _ _

set_option maxHeartbeats 1600000 in
theorem met_any (ws : List Nat) (sv : Value) (r : Int) (hrw : r / 64 < (ws.length : Int)) : ∀ (n : Nat) (q : QT n) (P : Nat → Prop) (c0 c1 c2 c3 : Value) (b off : Nat) (w : World), PM n P w q c0 c1 c2 c3 →
    w.cell? ⟨b, off, none⟩ = some c0 → w.cell? ⟨b, off + 1, none⟩ = some c1 → w.cell? ⟨b, off + 2, none⟩ = some c2 → Words w sv ws → QIds n q → QMax n q r → wt n q ≤ 1048576 →
    Calls Try.prog 33 #[.pointer (some ⟨b, off, none⟩), sv] w fun e w' => e = .returned (.int .i64 (met (memb ws) n q : Int)) ∧ w' = w := by
  intro n
  induction n with
  | zero => intro q P c0 c1 c2 c3 b off w h; exact absurd h id
  | succ n ih =>
    intro q P c0 c1 c2 c3 b off w hp hc0 hc1 hc2 hws hids hmax hwt
    have IH := hide ih
    clear ih
    obtain ⟨rfl, hwf, ⟨va, vc, rfl, hvm, hv⟩, ⟨ia, ic, rfl, him, hi⟩, rfl⟩ := hp
    have HV := hide hv
    have HI := hide hi
    have HWS := hide hws
    have HID := hide hids
    have HMX := hide hmax
    obtain ⟨V, Vn⟩ := name_it (vals q).length
    obtain ⟨L, Ln⟩ := name_it (inn q).length
    obtain ⟨t, Tn⟩ := name_it (thr q)
    have HW : Hid (wt (n + 1) q = 8 * V + 64 * L + ((inn q).map (wt n)).sum) := by rw [Vn.out, Ln.out]; rfl
    have hVL : 8 * V + 64 * L ≤ 1048576 := by have := HW.out; omega
    obtain ⟨R, Rn⟩ := name_it (met (memb ws) (n + 1) q)
    rw [← Rn.out]
    have HR : Hid (R = verdict t (cnt (fun z => !memb ws (Int.toNat z)) (vals q) + cnt (fun x => met (memb ws) n x == 2) (inn q)) (cnt (fun z => memb ws (Int.toNat z)) (vals q) + cnt (fun x => met (memb ws) n x == 1) (inn q))) := by rw [Rn.out, Tn.out]; rfl
    have htb := bounds_i64 hwf
    rw [← Tn.out] at htb hc0
    rw [← Vn.out] at hc1
    rw [← Ln.out] at hc2
    obtain ⟨ht1, ht2⟩ := htb
    clear hv hi hws hids hmax hwf hvm him
    go_enter Try.func33, Try.ntmps33
    go_wp2_with fail
    go_loop [5, 6, 16] (fun bv ov iv => ∃ (k x y : Nat), k ≤ V ∧ iv = .int .i64 (k : Int) ∧ bv = .int .i64 (x : Int) ∧ ov = .int .i64 (y : Int) ∧ x ≤ k ∧ y ≤ k ∧ Hid (x = cnt (fun z => !memb ws (Int.toNat z)) ((vals q).take k)) ∧ Hid (y = cnt (fun z => memb ws (Int.toNat z)) ((vals q).take k))) (fun _ _ iv => V - (intOf iv).toNat)
    case atStart => exact ⟨0, 0, 0, Nat.zero_le _, rfl, rfl, rfl, Nat.le_refl _, Nat.le_refl _, rfl, rfl⟩
    case round =>
      obtain ⟨k, x, y, hk, rfl, rfl, rfl, hxk, hyk, HX, HY⟩ := hrel
      by_cases hlt : k < V
      · have hlt' : k < (vals q).length := by rw [← Vn.out]; exact hlt
        obtain ⟨b2, off2, rfl, _, hcz⟩ := HV.out k hlt'
        obtain ⟨hz1, hz2⟩ := HID.out.1 _ (List.getElem_mem hlt')
        have hz3 := HMX.out.1 _ (List.getElem_mem hlt')
        have HX1 := hide (cnt_take (fun z => !memb ws (Int.toNat z)) (vals q) k hlt')
        have HY1 := hide (cnt_take (fun z => memb ws (Int.toNat z)) (vals q) k hlt')
        obtain ⟨z, Hz⟩ : ∃ z : Nat, Hid ((vals q)[k] = (z : Int)) := ⟨(vals q)[k].toNat, by show _ = _; omega⟩
        rw [Hz.out] at hcz hz1 hz2 hz3 HX1 HY1
        rw [Int.toNat_natCast, ← HX.out] at HX1
        rw [Int.toNat_natCast, ← HY.out] at HY1
        have hz4 : Hid (z / 64 < ws.length) := by unfold Hid; omega
        have hz5 : z < 65536 := by omega
        clear hz1 hz2 hz3
        cases hmb : memb ws z with
        | false =>
          have HX' : Hid (x + 1 = cnt (fun z => !memb ws (Int.toNat z)) ((vals q).take (k + 1))) := by rw [HX1.out, hmb]; rfl
          have HY' : Hid (y = cnt (fun z => memb ws (Int.toNat z)) ((vals q).take (k + 1))) := by rw [HY1.out, hmb]; rfl
          have HB := hide hmb
          clear hmb HX HY HX1 HY1
          go_wp2_with (go_at_call 36; refine (has_no _ ws z _ HWS.out hz4.out hz5 HB.out).mono ?_; rintro e w' ⟨rfl, rfl⟩)
          go_round
          case rel => exact ⟨k + 1, x + 1, y, by omega, by go_num, by go_num, rfl, by omega, by omega, HX', HY'⟩
          case measure => simp [intOf]; omega
        | true =>
          have HX' : Hid (x = cnt (fun z => !memb ws (Int.toNat z)) ((vals q).take (k + 1))) := by rw [HX1.out, hmb]; rfl
          have HY' : Hid (y + 1 = cnt (fun z => memb ws (Int.toNat z)) ((vals q).take (k + 1))) := by rw [HY1.out, hmb]; rfl
          have HB := hide hmb
          clear hmb HX HY HX1 HY1
          go_wp2_with (go_at_call 36; refine (has_yes _ ws z _ HWS.out hz4.out hz5 HB.out).mono ?_; rintro e w' ⟨rfl, rfl⟩)
          go_round
          case rel => exact ⟨k + 1, x, y + 1, by omega, by go_num, rfl, by go_num, by omega, by omega, HX', HY'⟩
          case measure => simp [intOf]; omega
      · have HX0 := HX.out
        have HY0 := HY.out
        rw [List.take_of_length_le (by rw [← Vn.out]; omega)] at HX0 HY0
        rw [← HX0, ← HY0] at HR
        clear HX HY HX0 HY0
        go_wp2_with fail
        go_loop [5, 6, 33] (fun bv ov iv => ∃ (j x2 y2 : Nat), j ≤ L ∧ iv = .int .i64 (j : Int) ∧ bv = .int .i64 ((x + x2 : Nat) : Int) ∧ ov = .int .i64 ((y + y2 : Nat) : Int) ∧ x2 ≤ j ∧ y2 ≤ j ∧ Hid (x2 = cnt (fun x => met (memb ws) n x == 2) ((inn q).take j)) ∧ Hid (y2 = cnt (fun x => met (memb ws) n x == 1) ((inn q).take j))) (fun _ _ iv => L - (intOf iv).toNat)
        case atStart => exact ⟨0, 0, 0, Nat.zero_le _, rfl, rfl, rfl, Nat.le_refl _, Nat.le_refl _, rfl, rfl⟩
        case round =>
          obtain ⟨j, x2, y2, hj, rfl, rfl, rfl, hxj, hyj, HX, HY⟩ := hrel
          by_cases hlt2 : j < L
          · have hlt' : j < (inn q).length := by rw [← Ln.out]; exact hlt2
            obtain ⟨b2, off2, d0, d1, d2, d3, rfl, _, k0, k1, k2, k3, k4⟩ := HI.out j hlt'
            have HX1 := hide (cnt_take (fun x => met (memb ws) n x == 2) (inn q) j hlt')
            have HY1 := hide (cnt_take (fun x => met (memb ws) n x == 1) (inn q) j hlt')
            have hm2 := met_le (memb ws) n (inn q)[j]
            have HC1 := hide (IH.out (inn q)[j] P d0 d1 d2 d3 b2 (off2 + j * 4) w k4 k0 k1 k2 HWS.out (HID.out.2 _ (List.getElem_mem hlt')) (HMX.out.2 _ (List.getElem_mem hlt')) (by
              have h1 := single_le_sum (wt n) (inn q) _ (List.getElem_mem hlt')
              have h2 := HW.out
              omega))
            obtain ⟨mm, Hmm⟩ := name_it (met (memb ws) n (inn q)[j])
            rw [← Hmm.out] at hm2 HC1 HX1 HY1
            rw [← HX.out] at HX1
            rw [← HY.out] at HY1
            clear k0 k1 k2 k3 k4 Hmm HX HY
            go_wp2_with fail
            refine Calls.mono HC1.out ?_
            rintro e w2 ⟨rfl, rfl⟩
            clear HC1
            rcases (show mm = 2 ∨ mm = 1 ∨ mm = 0 by omega) with rfl | rfl | rfl
            · have HX' : Hid (x2 + 1 = cnt (fun x => met (memb ws) n x == 2) ((inn q).take (j + 1))) := by rw [HX1.out]; rfl
              have HY' : Hid (y2 = cnt (fun x => met (memb ws) n x == 1) ((inn q).take (j + 1))) := by rw [HY1.out]; rfl
              clear HX1 HY1 hm2
              go_wp2_with fail
              go_round
              case rel => exact ⟨j + 1, x2 + 1, y2, by omega, by go_num, by go_num, rfl, by omega, by omega, HX', HY'⟩
              case measure => simp [intOf]; omega
            · have HX' : Hid (x2 = cnt (fun x => met (memb ws) n x == 2) ((inn q).take (j + 1))) := by rw [HX1.out]; rfl
              have HY' : Hid (y2 + 1 = cnt (fun x => met (memb ws) n x == 1) ((inn q).take (j + 1))) := by rw [HY1.out]; rfl
              clear HX1 HY1 hm2
              go_wp2_with fail
              go_round
              case rel => exact ⟨j + 1, x2, y2 + 1, by omega, by go_num, rfl, by go_num, by omega, by omega, HX', HY'⟩
              case measure => simp [intOf]; omega
            · have HX' : Hid (x2 = cnt (fun x => met (memb ws) n x == 2) ((inn q).take (j + 1))) := by rw [HX1.out]; rfl
              have HY' : Hid (y2 = cnt (fun x => met (memb ws) n x == 1) ((inn q).take (j + 1))) := by rw [HY1.out]; rfl
              clear HX1 HY1 hm2
              go_wp2_with fail
              go_round
              case rel => exact ⟨j + 1, x2, y2, by omega, by go_num, rfl, rfl, by omega, by omega, HX', HY'⟩
              case measure => simp [intOf]; omega
          · have HX0 := HX.out
            have HY0 := HY.out
            rw [List.take_of_length_le (by rw [← Ln.out]; omega)] at HX0 HY0
            rw [← HX0, ← HY0] at HR
            clear HX HY HX0 HY0
            obtain ⟨A, HA⟩ := name_it (x + x2)
            obtain ⟨B, HB⟩ := name_it (y + y2)
            have hA : A ≤ 200000 := by rw [HA.out]; omega
            have hB : B ≤ 200000 := by rw [HB.out]; omega
            rw [← HA.out, ← HB.out] at HR
            rw [← HA.out, ← HB.out]
            by_cases g1 : t ≤ (A : Int)
            · have HR' : Hid (R = 2) := by rw [HR.out]; unfold verdict; rw [if_pos (Or.inl g1)]; rfl
              go_wp2_with fail
              go_ret
              exact ⟨ret_int (by rw [HR'.out]; rfl), rfl⟩
            · have g1a : (A : Int) < t := by omega
              have g1b : decide (t ≤ (A : Int)) = false := by rw [decide_eq_false_iff_not]; omega
              by_cases g2 : wrap64 (2 * (t - (A : Int))) ≤ (B : Int)
              · have HR' : Hid (R = 2) := by rw [HR.out]; unfold verdict; rw [if_pos (Or.inr g2)]; rfl
                clear g1
                go_wp2_with fail
                go_ret
                exact ⟨ret_int (by rw [HR'.out]; rfl), rfl⟩
              · have g2a : (B : Int) < wrap64 (2 * (t - (A : Int))) := by omega
                by_cases g3 : t ≤ (A : Int) + (B : Int)
                · have HR' : Hid (R = 1) := by rw [HR.out]; unfold verdict; rw [if_neg (by omega), if_pos g3]; rfl
                  have g2b : (B : Int) < 2 * (t - (A : Int)) := by unfold wrap64 at g2a; omega
                  clear g1 g2 g2a
                  go_wp2_with fail
                  go_ret
                  exact ⟨ret_int (by rw [HR'.out]; rfl), rfl⟩
                · have HR' : Hid (R = 0) := by rw [HR.out]; unfold verdict; rw [if_neg (by omega), if_neg g3]; rfl
                  have g3a : (A : Int) + (B : Int) < t := by omega
                  clear g1 g2 g3
                  go_wp2_with fail
                  go_ret
                  exact ⟨ret_int (by rw [HR'.out]; rfl), rfl⟩

theorem zzMet_any (ws : List Nat) (sv : Value) (r : Int) (hrw : r / 64 < (ws.length : Int)) (n : Nat) (q : QT n) (P : Nat → Prop) (c0 c1 c2 c3 : Value) (b off : Nat) (w : World) (hp : PM n P w q c0 c1 c2 c3)
    (h0 : w.cell? ⟨b, off, none⟩ = some c0) (h1 : w.cell? ⟨b, off + 1, none⟩ = some c1) (h2 : w.cell? ⟨b, off + 2, none⟩ = some c2) (hws : Words w sv ws) (hid : QIds n q) (hmx : QMax n q r) (hwt : wt n q ≤ 1048576) :
    Calls Try.prog 23 #[.pointer (some ⟨b, off, none⟩), sv] w fun e w' => e = .returned (.int .i64 (met (memb ws) n q : Int)) ∧ w' = w := by
  have H := hide (met_any ws sv r hrw n q P c0 c1 c2 c3 b off w hp h0 h1 h2 hws hid hmx hwt)
  obtain ⟨R, HR⟩ := name_it (met (memb ws) n q)
  rw [← HR.out] at H ⊢
  clear h0 h1 h2
  go_enter Try.func23, Try.ntmps23
  go_wp2_with fail
  refine Calls.mono H.out ?_
  rintro e w1 ⟨rfl, rfl⟩
  go_wp2_with fail
  go_ret
  exact ⟨rfl, rfl⟩
end Go.Proofs.Qxb6001451a
