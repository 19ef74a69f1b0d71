import Derived.Test.Qxb6001451aProj
import Derived.Test.Qxb6001451aBitsOf
namespace Go.Proofs.Qxb6001451a
open Go.RowKit

/-! ### THE PLAIN FUNCTION -/
/-- The entries one after the other, each with its verdict and what it costs to examine: c are met, ex examined. It stops as soon as t are met. -/
def scan (t : Int) : List (Bool × Nat) → Nat → Nat → Bool × Nat
  | [], _, ex => (false, ex)
  | e :: es, c, ex => if e.1 then (if (c : Int) + 1 = t then (true, ex + e.2) else scan t es (c + 1) (ex + e.2)) else scan t es c (ex + e.2)

def sat (S : Nat → Bool) : (n : Nat) → QT n → Bool × Nat
  | 0, _ => (false, 0)
  | n + 1, q => if ((vals q).length : Int) + ((inn q).length : Int) < thr q then (false, 0)
      else scan (thr q) ((vals q).map (fun z => (S z.toNat, 1)) ++ (inn q).map (fun x => ((sat S n x).1, 1 + (sat S n x).2))) 0 0

theorem scan_hit {t : Int} {k c ex : Nat} {es : List (Bool × Nat)} (h : (c : Int) + 1 = t) : scan t ((true, k) :: es) c ex = (true, ex + k) := by simp [scan, h]
theorem scan_on {t : Int} {k c ex : Nat} {es : List (Bool × Nat)} (h : ¬ (c : Int) + 1 = t) : scan t ((true, k) :: es) c ex = scan t es (c + 1) (ex + k) := by simp [scan, h]
theorem scan_miss {t : Int} {k c ex : Nat} {es : List (Bool × Nat)} : scan t ((false, k) :: es) c ex = scan t es c (ex + k) := by simp [scan]

theorem scan_le (t : Int) : ∀ (es : List (Bool × Nat)) (c ex : Nat), (scan t es c ex).2 ≤ ex + (es.map (·.2)).sum
  | [], c, ex => by simp [scan]
  | e :: es, c, ex => by
    simp only [scan, List.map_cons, List.sum_cons]
    split
    · split
      · simp only; omega
      · have := scan_le t es (c + 1) (ex + e.2); omega
    · have := scan_le t es c (ex + e.2); omega

theorem sum_ones {α : Type} (l : List α) (f : α → Bool) : ((l.map (fun z => (f z, 1))).map (fun x : Bool × Nat => x.2)).sum = l.length := by
  induction l with
  | nil => rfl
  | cons a l ih => simp only [List.map_cons, List.sum_cons, ih, List.length_cons]; omega

theorem sum_inner {α : Type} (l : List α) (f : α → Bool × Nat) (g : α → Nat) (h : ∀ x ∈ l, (f x).2 ≤ g x) : ((l.map (fun x => ((f x).1, 1 + (f x).2))).map (fun x : Bool × Nat => x.2)).sum ≤ l.length + (l.map g).sum := by
  induction l with
  | nil => simp
  | cons a l ih =>
    have h1 := h a (by simp)
    have h2 := ih (fun x hx => h x (by simp [hx]))
    simp only [List.map_cons, List.sum_cons, List.length_cons]
    omega

theorem sat_le (S : Nat → Bool) : ∀ (n : Nat) (q : QT n), (sat S n q).2 ≤ ent n q
  | 0, _ => by simp [sat, ent]
  | n + 1, q => by
    unfold sat
    split
    · simp
    · refine Nat.le_trans (scan_le _ _ _ _) ?_
      rw [List.map_append, List.sum_append, sum_ones]
      have := sum_inner (inn q) (sat S n) (ent n) (fun x _ => sat_le S n x)
      simp only [ent]
      omega

theorem need_zero (t : Int) (c : Nat) (h1 : -9223372036854775808 ≤ t) (h2 : t ≤ 9223372036854775807) (hc : c ≤ 2000000) : wrap64 (t - (c : Int)) = 0 ↔ t = (c : Int) := by
  unfold wrap64; omega
theorem need_step (t : Int) (c : Nat) : wrap64 (wrap64 (t - (c : Int)) - 1) = wrap64 (t - ((c + 1 : Nat) : Int)) := by
  unfold wrap64; omega
theorem need_start (t : Int) (h1 : -9223372036854775808 ≤ t) (h2 : t ≤ 9223372036854775807) : wrap64 (t - ((0 : Nat) : Int)) = t := by
  unfold wrap64; omega

theorem From.drewN {S : Nat → Prop} (w : World) (m : Nat) : From S w (w.drewN m) := fun _ _ _ => rfl
theorem Words.drewN {w : World} {v : Value} {ws : List Nat} (h : Words w v ws) (m : Nat) : Words (w.drewN m) v ws := h

theorem drop_cons {α : Type} {l : List α} {k : Nat} (h : k < l.length) {x : α} (hx : l[k] = x) : l.drop k = x :: l.drop (k + 1) := by
  rw [List.drop_eq_getElem_cons h, hx]

theorem ret_sat {a a' : Bool} {b b' : Int} (h : a = a') (g : b = b') : Ending.returned (.tuple #[.bool a, .int .i64 b]) = .returned (.tuple #[.bool a', .int .i64 b']) := by rw [h, g]

theorem has_yes (v : Value) (ws : List Nat) (z : Nat) (w : World) (hv : Words w v ws) (hz : z / 64 < ws.length) (hz2 : z < 65536) (h : memb ws z = true) :
    Calls Try.prog 36 #[v, .int .i64 (z : Int)] w fun e w' => e = .returned (.bool true) ∧ w' = w := by
  have := has_any v ws z w hv hz hz2; rw [h] at this; exact this
theorem has_no (v : Value) (ws : List Nat) (z : Nat) (w : World) (hv : Words w v ws) (hz : z / 64 < ws.length) (hz2 : z < 65536) (h : memb ws z = false) :
    Calls Try.prog 36 #[v, .int .i64 (z : Int)] w fun e w' => e = .returned (.bool false) ∧ w' = w := by
  have := has_any v ws z w hv hz hz2; rw [h] at this; exact this

set_option maxHeartbeats 1600000 in
theorem sat_any (ws : List Nat) (sv : Value) (r : Int) (hrw : r / 64 < (ws.length : Int)) : ∀ (n : Nat) (q : QT n) (P : Nat → Prop) (c0 c1 c2 c3 : Value) (b off : Nat) (w : World), PM n P w q c0 c1 c2 c3 →
    w.cell? ⟨b, off, none⟩ = some c0 → w.cell? ⟨b, off + 1, none⟩ = some c1 → w.cell? ⟨b, off + 2, none⟩ = some c2 → Words w sv ws → QIds n q → QMax n q r → wt n q ≤ 1048576 →
    Calls Try.prog 32 #[.pointer (some ⟨b, off, none⟩), sv] w fun e w' => e = .returned (.tuple #[.bool (sat (memb ws) n q).1, .int .i64 ((sat (memb ws) n q).2 : Int)]) ∧ ∃ m, w' = w.drewN m := by
  intro n
  induction n with
  | zero => intro q P c0 c1 c2 c3 b off w h; exact absurd h id
  | succ n ih =>
    intro q P c0 c1 c2 c3 b off w hp hc0 hc1 hc2 hws hids hmax hwt
    have IH := hide ih
    clear ih
    obtain ⟨rfl, hwf, ⟨va, vc, rfl, hvm, hv⟩, ⟨ia, ic, rfl, him, hi⟩, rfl⟩ := hp
    have HV := hide hv
    have HI := hide hi
    have HWS := hide hws
    have HID := hide hids
    have HMX := hide hmax
    obtain ⟨V, Vn⟩ := name_it (vals q).length
    obtain ⟨L, Ln⟩ := name_it (inn q).length
    obtain ⟨t, Tn⟩ := name_it (thr q)
    obtain ⟨E, En⟩ := name_it ((vals q).map (fun z => (memb ws z.toNat, 1)) ++ (inn q).map (fun x => ((sat (memb ws) n x).1, 1 + (sat (memb ws) n x).2)))
    have HW : Hid (wt (n + 1) q = 8 * V + 64 * L + ((inn q).map (wt n)).sum) := by rw [Vn.out, Ln.out]; rfl
    have hVL : 8 * V + 64 * L ≤ 1048576 := by have := HW.out; omega
    have HS : Hid (sat (memb ws) (n + 1) q = if (V : Int) + (L : Int) < t then (false, 0) else scan t E 0 0) := by rw [Vn.out, Ln.out, Tn.out, En.out]; rfl
    have HEnt : Hid (V + L + ((inn q).map (ent n)).sum ≤ 131072) := by
      have h1 := ent_wt (n + 1) q
      have h2 : ent (n + 1) q = V + L + ((inn q).map (ent n)).sum := by rw [Vn.out, Ln.out]; rfl
      unfold Hid; omega
    obtain ⟨R, Rn⟩ := name_it (sat (memb ws) (n + 1) q)
    rw [← Rn.out]
    rw [← Rn.out] at HS
    have hEl : Hid (E.length = V + L) := by rw [En.out, Vn.out, Ln.out]; show _ = _; simp
    have htb := bounds_i64 hwf
    rw [← Tn.out] at htb hc0
    rw [← Vn.out] at hc1
    rw [← Ln.out] at hc2
    obtain ⟨ht1, ht2⟩ := htb
    clear hv hi hws hids hmax hwf hvm him
    by_cases h1 : (V : Int) + (L : Int) < t
    · have HR : Hid (R = (false, 0)) := by rw [HS.out, if_pos h1]; rfl
      go_enter Try.func32, Try.ntmps32
      go_wp2_with fail
      go_quiet (fail)
      go_wp2_with fail
      go_ret2
      exact ⟨ret_sat (by rw [HR.out]) (by rw [HR.out]; rfl), _, rfl⟩
    · have h1a : t ≤ (V : Int) + (L : Int) := by omega
      have HR : Hid (R = scan t E 0 0) := by rw [HS.out, if_neg h1]; rfl
      clear h1 HS
      go_enter Try.func32, Try.ntmps32
      go_wp2_with fail
      go_quiet (fail)
      go_wp2_with fail
      go_loop [6, 7, 35] (fun nv ev iv => ∃ (k c : Nat) (m : Int), k ≤ V ∧ iv = .int .i64 (k : Int) ∧ nv = .int .i64 m ∧ ev = .int .i64 (k : Int) ∧ c ≤ k ∧ Hid (m = wrap64 (t - (c : Int))) ∧ Hid (R = scan t (E.drop k) c k)) (fun _ _ iv => V - (intOf iv).toNat)
      case atStart => exact ⟨0, 0, t, Nat.zero_le _, rfl, rfl, rfl, Nat.le_refl _, (need_start t ht1 ht2).symm, HR.out⟩
      case round =>
        obtain ⟨k, c, m, hk, rfl, rfl, rfl, hck, HM, HC⟩ := hrel
        by_cases hlt : k < V
        · have hlt' : k < (vals q).length := by rw [← Vn.out]; exact hlt
          obtain ⟨b2, off2, rfl, _, hcz⟩ := HV.out k hlt'
          obtain ⟨hz1, hz2⟩ := HID.out.1 _ (List.getElem_mem hlt')
          have hz3 := HMX.out.1 _ (List.getElem_mem hlt')
          have HEk : Hid (E.drop k = (memb ws (vals q)[k].toNat, 1) :: E.drop (k + 1)) := drop_cons (by rw [hEl.out]; omega) (by simp [En.out, hlt'])
          obtain ⟨z, Hz⟩ : ∃ z : Nat, Hid ((vals q)[k] = (z : Int)) := ⟨(vals q)[k].toNat, by show _ = _; omega⟩
          rw [Hz.out] at hcz hz1 hz2 hz3 HEk
          rw [Int.toNat_natCast] at HEk
          have hz4 : Hid (z / 64 < ws.length) := by unfold Hid; omega
          have hz5 : z < 65536 := by omega
          clear hz1 hz2 hz3
          cases hmb : memb ws z with
          | false =>
            have HC' : Hid (R = scan t (E.drop (k + 1)) c (k + 1)) := by rw [HC.out, HEk.out, hmb, scan_miss]; rfl
            have HB := hide hmb
            clear hmb HC HEk
            go_wp2_with (go_at_call 36; refine (has_no _ ws z _ (HWS.out.drewN _) hz4.out hz5 HB.out).mono ?_; rintro e w' ⟨rfl, rfl⟩)
            go_round
            case rel => exact ⟨k + 1, c, m, by omega, by go_num, rfl, by go_num, by omega, HM, HC'⟩
            case measure => simp [intOf]; omega
          | true =>
            have HB := hide hmb
            by_cases hit : (c : Int) + 1 = t
            · have hm0 : (wrap64 (m - 1) == 0) = true := by
                rw [HM.out, need_step, beq_iff_eq, need_zero t (c + 1) ht1 ht2 (by omega)]; omega
              have HC' : Hid (R = (true, k + 1)) := by rw [HC.out, HEk.out, hmb, scan_hit hit]; rfl
              clear hmb HC HEk hit
              go_wp2_with (go_at_call 36; refine (has_yes _ ws z _ (HWS.out.drewN _) hz4.out hz5 HB.out).mono ?_; rintro e w' ⟨rfl, rfl⟩)
              go_ret2
              exact ⟨ret_sat (by rw [HC'.out]) (by rw [HC'.out]; rfl), _, rfl⟩
            · have hm0 : (wrap64 (m - 1) == 0) = false := by
                rw [HM.out, need_step, beq_eq_false_iff_ne, ne_eq, need_zero t (c + 1) ht1 ht2 (by omega)]; omega
              have HM' : Hid (wrap64 (m - 1) = wrap64 (t - ((c + 1 : Nat) : Int))) := by rw [HM.out, need_step]; rfl
              have HC' : Hid (R = scan t (E.drop (k + 1)) (c + 1) (k + 1)) := by rw [HC.out, HEk.out, hmb, scan_on hit]; rfl
              clear hmb HC HEk hit HM
              go_wp2_with (go_at_call 36; refine (has_yes _ ws z _ (HWS.out.drewN _) hz4.out hz5 HB.out).mono ?_; rintro e w' ⟨rfl, rfl⟩)
              go_round
              case rel => exact ⟨k + 1, c + 1, _, by omega, by go_num, rfl, by go_num, by omega, HM', HC'⟩
              case measure => simp [intOf]; omega
        · obtain rfl : k = V := by omega
          clear hlt
          go_wp2_with fail
          go_loopw [6, 7, 55] (fun nv ev iv wr => ∃ (j c ex x : Nat) (m : Int), j ≤ L ∧ iv = .int .i64 (j : Int) ∧ nv = .int .i64 m ∧ ev = .int .i64 (ex : Int) ∧ c ≤ k + j ∧ Hid (ex ≤ k + j + (((inn q).take j).map (ent n)).sum) ∧ Hid (m = wrap64 (t - (c : Int))) ∧ Hid (R = scan t (E.drop (k + j)) c ex) ∧ wr = w.drewN x) (fun _ _ iv _ => L - (intOf iv).toNat)
          case atStart => exact ⟨0, c, k, _, m, Nat.zero_le _, rfl, rfl, rfl, hck, by unfold Hid; omega, HM, HC, rfl⟩
          case round =>
            clear hck HM HC
            obtain ⟨j, c, ex, x, m, hj, rfl, rfl, rfl, hcj, HX, HM, HC, rfl⟩ := hrel
            have hex : ex ≤ 131072 := by
              have h1 := HX.out
              have h2 := sum_take_le (ent n) (inn q) j
              have h3 := HEnt.out
              omega
            by_cases hlt : j < L
            · have hlt' : j < (inn q).length := by rw [← Ln.out]; exact hlt
              obtain ⟨b2, off2, d0, d1, d2, d3, rfl, _, k0, k1, k2, k3, k4⟩ := HI.out j hlt'
              have HEk : Hid (E.drop (k + j) = ((sat (memb ws) n (inn q)[j]).1, 1 + (sat (memb ws) n (inn q)[j]).2) :: E.drop (k + (j + 1))) := drop_cons (by rw [hEl.out]; omega) (by simp [En.out, Vn.out])
              have HXs := hide (sum_take_succ (ent n) (inn q) j hlt')
              have hins := sat_le (memb ws) n (inn q)[j]
              have hentj : ent n (inn q)[j] ≤ 131072 := by
                have h1 := single_le_sum (ent n) (inn q) _ (List.getElem_mem hlt')
                have h2 := HEnt.out
                omega
              have HC1 := hide (IH.out (inn q)[j] P d0 d1 d2 d3 b2 (off2 + j * 4) (w.drewN x) (PM.keep n k4 (From.drewN w x)) k0 k1 k2 (HWS.out.drewN x) (HID.out.2 _ (List.getElem_mem hlt')) (HMX.out.2 _ (List.getElem_mem hlt')) (by
                have h1 := single_le_sum (wt n) (inn q) _ (List.getElem_mem hlt')
                have h2 := HW.out
                omega))
              obtain ⟨en, Hen⟩ := name_it (ent n (inn q)[j])
              rw [← Hen.out] at hins hentj HXs
              obtain ⟨⟨ok, ins⟩, Hsj⟩ := name_it (sat (memb ws) n (inn q)[j])
              rw [← Hsj.out] at hins HC1 HEk
              simp only at hins
              have hins2 : ins ≤ 131072 := by omega
              have HX' : Hid (ex + (1 + ins) ≤ k + (j + 1) + (((inn q).take (j + 1)).map (ent n)).sum) := by
                have h1 := HX.out
                have h2 := HXs.out
                unfold Hid; omega
              clear k0 k1 k2 k3 k4 hins HX HXs hentj Hen
              go_wp2_with fail
              refine Calls.mono HC1.out ?_
              rintro e w2 ⟨rfl, y, rfl⟩
              clear HC1
              cases ok with
              | false =>
                have HC' : Hid (R = scan t (E.drop (k + (j + 1))) c (ex + (1 + ins))) := by rw [HC.out, HEk.out, scan_miss]; rfl
                clear HC HEk
                go_wp2_with fail
                go_roundw
                case rel => exact ⟨j + 1, c, ex + (1 + ins), _, m, by omega, by go_num, rfl, by go_num, by omega, HX', HM, HC', rfl⟩
                case measure => simp [intOf]; omega
              | true =>
                by_cases hit : (c : Int) + 1 = t
                · have hm0 : (wrap64 (m - 1) == 0) = true := by
                    rw [HM.out, need_step, beq_iff_eq, need_zero t (c + 1) ht1 ht2 (by omega)]; omega
                  have HC' : Hid (R = (true, ex + (1 + ins))) := by rw [HC.out, HEk.out, scan_hit hit]; rfl
                  clear HC HEk hit
                  go_wp2_with fail
                  go_ret2
                  exact ⟨ret_sat (by rw [HC'.out]) (by rw [HC'.out]; go_num), _, rfl⟩
                · have hm0 : (wrap64 (m - 1) == 0) = false := by
                    rw [HM.out, need_step, beq_eq_false_iff_ne, ne_eq, need_zero t (c + 1) ht1 ht2 (by omega)]; omega
                  have HM' : Hid (wrap64 (m - 1) = wrap64 (t - ((c + 1 : Nat) : Int))) := by rw [HM.out, need_step]; rfl
                  have HC' : Hid (R = scan t (E.drop (k + (j + 1))) (c + 1) (ex + (1 + ins))) := by rw [HC.out, HEk.out, scan_on hit]; rfl
                  clear HC HEk hit HM
                  go_wp2_with fail
                  go_roundw
                  case rel => exact ⟨j + 1, c + 1, ex + (1 + ins), _, _, by omega, by go_num, rfl, by go_num, by omega, HX', HM', HC', rfl⟩
                  case measure => simp [intOf]; omega
            · have HC' : Hid (R = (false, ex)) := by
                rw [HC.out, List.drop_of_length_le (by rw [hEl.out]; omega)]; rfl
              clear HC HM HX
              go_wp2_with fail
              go_ret2
              exact ⟨ret_sat (by rw [HC'.out]) (by rw [HC'.out]), _, rfl⟩

theorem zzSat_any (ws : List Nat) (sv : Value) (r : Int) (hrw : r / 64 < (ws.length : Int)) (n : Nat) (q : QT n) (P : Nat → Prop) (c0 c1 c2 c3 : Value) (b off : Nat) (w : World) (hp : PM n P w q c0 c1 c2 c3)
    (h0 : w.cell? ⟨b, off, none⟩ = some c0) (h1 : w.cell? ⟨b, off + 1, none⟩ = some c1) (h2 : w.cell? ⟨b, off + 2, none⟩ = some c2) (hws : Words w sv ws) (hid : QIds n q) (hmx : QMax n q r) (hwt : wt n q ≤ 1048576) :
    Calls Try.prog 18 #[.pointer (some ⟨b, off, none⟩), sv] w fun e w' => e = .returned (.tuple #[.bool (sat (memb ws) n q).1, .int .i64 ((sat (memb ws) n q).2 : Int)]) ∧ ∃ m, w' = w.drewN m := by
  have H := hide (sat_any ws sv r hrw n q P c0 c1 c2 c3 b off w hp h0 h1 h2 hws hid hmx hwt)
  obtain ⟨⟨ok, ex⟩, HR⟩ := name_it (sat (memb ws) n q)
  rw [← HR.out] at H ⊢
  clear h0 h1 h2
  go_enter Try.func18, Try.ntmps18
  go_wp2_with fail
  refine Calls.mono H.out ?_
  rintro e w1 ⟨rfl, m, rfl⟩
  go_wp2_with fail
  go_ret2
  exact ⟨rfl, m, rfl⟩

/-! ### THE PLAIN LAW -/
theorem scan_yes (t : Int) : ∀ (es : List (Bool × Nat)) (c ex : Nat), (∀ e ∈ es, 1 ≤ e.2) → (scan t es c ex).1 = true → (c : Int) + 1 ≤ t ∧ (ex : Int) + (t - (c : Int)) ≤ ((scan t es c ex).2 : Int)
  | [], c, ex, _, h => by simp [scan] at h
  | e :: es, c, ex, hc, h => by
    have h1 := hc e (by simp)
    have hc' : ∀ x ∈ es, 1 ≤ x.2 := fun x hx => hc x (by simp [hx])
    simp only [scan] at h ⊢
    split at h
    · split at h
      · rename_i a b
        simp only [a, b, if_true]
        omega
      · rename_i a b
        simp only [a, b, if_true, if_false]
        have := scan_yes t es (c + 1) (ex + e.2) hc' h
        omega
    · rename_i a
      simp only [a]
      have := scan_yes t es c (ex + e.2) hc' h
      simp only [Bool.false_eq_true, if_false]
      omega

theorem scan_no (t : Int) : ∀ (es : List (Bool × Nat)) (c ex : Nat), (∀ e ∈ es, 1 ≤ e.2) → (scan t es c ex).1 = false → ex + es.length ≤ (scan t es c ex).2
  | [], c, ex, _, _ => by simp [scan]
  | e :: es, c, ex, hc, h => by
    have h1 := hc e (by simp)
    have hc' : ∀ x ∈ es, 1 ≤ x.2 := fun x hx => hc x (by simp [hx])
    simp only [scan] at h ⊢
    split at h
    · split at h
      · simp at h
      · rename_i a b
        simp only [a, b, if_true, if_false]
        have := scan_no t es (c + 1) (ex + e.2) hc' h
        simp only [List.length_cons]
        omega
    · rename_i a
      have := scan_no t es c (ex + e.2) hc' h
      simp only [a, Bool.false_eq_true, if_false, List.length_cons]
      omega

theorem sat_cost (S : Nat → Bool) (n : Nat) (q : QT (n + 1)) : ∀ e ∈ (vals q).map (fun z => (S z.toNat, 1)) ++ (inn q).map (fun x => ((sat S n x).1, 1 + (sat S n x).2)), 1 ≤ e.2 := by
  intro e he
  rcases List.mem_append.1 he with h | h
  · obtain ⟨z, _, rfl⟩ := List.mem_map.1 h; simp
  · obtain ⟨z, _, rfl⟩ := List.mem_map.1 h; simp

/-- THE LAW OF 'ExaminesWithinBounds'. -/
theorem sat_bounds (S : Nat → Bool) (n : Nat) (q : QT (n + 1)) :
    (((vals q).length : Int) + ((inn q).length : Int) < thr q → sat S (n + 1) q = (false, 0)) ∧
    ((sat S (n + 1) q).1 = true → 1 ≤ thr q ∧ thr q ≤ ((sat S (n + 1) q).2 : Int)) ∧
    (¬ ((vals q).length : Int) + ((inn q).length : Int) < thr q → (sat S (n + 1) q).1 = false → (vals q).length + (inn q).length ≤ (sat S (n + 1) q).2) := by
  refine ⟨fun h => ?_, fun h => ?_, fun h h2 => ?_⟩
  · unfold sat; rw [if_pos h]
  · unfold sat at h ⊢
    split at h
    · simp at h
    · rename_i a
      rw [if_neg a]
      have := scan_yes _ _ 0 0 (sat_cost S n q) h
      omega
  · unfold sat at h2 ⊢
    rw [if_neg h] at h2 ⊢
    have := scan_no _ _ 0 0 (sat_cost S n q) h2
    simp only [List.length_append, List.length_map] at this
    omega
end Go.Proofs.Qxb6001451a
