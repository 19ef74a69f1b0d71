import Derived.Test.Qxb6001398aLawA
namespace Go.Proofs.Qxb6001398a
open Go.RowKit
open Plain

theorem digs_len : ∀ (f d n : Nat), n < 10 ^ d → (digs f n).length ≤ d
  | 0, _, _, _ => by simp [digs]
  | f + 1, 0, n, h => by
    have : n = 0 := by simpa using h
    subst this; rw [digs_zero]; simp
  | f + 1, d + 1, n, h => by
    by_cases hn : n = 0
    · subst hn; rw [digs_zero]; simp
    · rw [digs_succ f n hn]
      have := digs_len f d (n / 10) (by rw [Nat.pow_succ] at h; omega)
      simp; omega

theorem itoa_len (d n : Nat) (h : n < 10 ^ d) (hd : 1 ≤ d) : (itoa n).length ≤ d := by
  unfold itoa
  split
  · simpa using hd
  · exact digs_len 20 d n h

def pad (n wd : Nat) : List UInt8 := List.replicate (wd - (itoa n).length) 48 ++ itoa n

theorem pad_len (n wd : Nat) (h : n < 10 ^ wd) (hd : 1 ≤ wd) : (pad n wd).length = wd := by
  have := itoa_len wd n h hd
  simp [pad]; omega
theorem pad_allDig (n wd : Nat) : allDig (pad n wd) = true := by
  rw [pad, allDig_append, zeros_allDig, itoa_allDig]; rfl
theorem pad_val (n wd : Nat) (h : n ≤ 9223372036854775807) : val (pad n wd) = n := by
  rw [pad, val_zeros, val_itoa n h]

theorem name_it {α : Type} (x : α) : ∃ y, Hid (y = x) := ⟨x, rfl⟩

theorem str_cat (a b : List UInt8) : (⟨a.toArray⟩ : ByteArray) ++ ⟨b.toArray⟩ = ⟨(a ++ b).toArray⟩ := by
  apply ByteArray.ext; simp

set_option maxHeartbeats 400000 in
theorem pad_any (n wd : Nat) (w : World) (hn : n ≤ 9223372036854775807) (h1 : (itoa n).length ≤ wd) (h2 : wd ≤ 100) :
    Calls Try.prog 17 #[.int .i64 n, .int .i64 wd] w fun e w' => e = .returned (.string ⟨(pad n wd).toArray⟩) ∧ Below w.heap.size w w' := by
  obtain ⟨D, HD⟩ : ∃ D, Hid (D = itoa n) := ⟨_, rfl⟩
  unfold pad
  rw [← HD.out] at h1 ⊢
  go_enter Try.func17, Try.ntmps17
  go_wp2_with fail
  refine (itoa_any (n : Int) w (by omega)).mono ?_
  rw [Int.toNat_natCast, ← HD.out]
  rintro e w1 ⟨rfl, hb1⟩
  go_wp2
  go_loop [5] (fun s => ∃ j : Nat, j + D.length ≤ wd ∧ s = .string ⟨(List.replicate j 48 ++ D).toArray⟩) (fun s => wd - (match s with | .string b => b.size | _ => 0))
  case atStart => exact ⟨0, by omega, rfl⟩
  case round =>
    obtain ⟨j, hj, rfl⟩ := hrel
    obtain ⟨L, HL⟩ := name_it (List.replicate j (48 : UInt8) ++ D)
    have hLl : L.length = j + D.length := by rw [HL.out]; simp
    rw [← HL.out]
    by_cases hlt : j + D.length < wd
    · go_wp2
      go_round
      case rel => exact ⟨j + 1, by omega, by rw [HL.out, List.replicate_succ]; exact congrArg Value.string (str_cat [48] _)⟩
      case measure => simp [ByteArray.size]; omega
    · go_wp2
      go_ret
      exact ⟨ret_str (by rw [HL.out, show j = wd - D.length by omega]), hb1⟩

theorem dv_yes (Y : List UInt8) (w : World) (dY : allDig Y = true) (hl : Y.length ≤ 1000000) :
    Calls Try.prog 27 #[.string ⟨Y.toArray⟩] w fun e w' => e = .returned (.tuple #[.int .i64 (val Y), .bool true]) ∧ w' = w := by
  have := digitsValue_any ⟨Y.toArray⟩ w (size_le_list Y hl)
  rw [dY, dvV_yes dY] at this
  exact this

theorem results_tmp4 {fn : Func} {t u v x : Tmp} (h : fn.results = #[.tmp t, .tmp u, .tmp v, .tmp x]) (tmps : Array Value) (P : Program) (w : World) :
    (results fn tmps).run P w = .ok (.tuple #[tmps.getD t undef, tmps.getD u undef, tmps.getD v undef, tmps.getD x undef]) w := by
  simp [results, h, go_sem]

set_option maxHeartbeats 400000 in
theorem dateFields_core (S : ByteArray) (Y M D : List UInt8) (w : World) (hS : S.size = 10) (h4 : ((S[4]'(by omega)).toNat : Int) = 45) (h7 : ((S[7]'(by omega)).toNat : Int) = 45)
    (hA : S.extract 0 4 = ⟨Y.toArray⟩) (hB : S.extract 5 7 = ⟨M.toArray⟩) (hC : S.extract 8 10 = ⟨D.toArray⟩)
    (hY : Y.length ≤ 4) (hM : M.length ≤ 4) (hD : D.length ≤ 4) (dY : allDig Y = true) (dM : allDig M = true) (dD : allDig D = true) :
    Calls Try.prog 28 #[.string S] w fun e w' => e = .returned (.tuple #[.int .i64 (val Y), .int .i64 (val M), .int .i64 (val D), .bool true]) ∧ w' = w := by
  have HY : Hid (allDig Y = true) := dY
  have HM : Hid (allDig M = true) := dM
  have HD : Hid (allDig D = true) := dD
  clear dY dM dD
  go_enter Try.func28, Try.ntmps28
  go_wp2_with fail
  refine (dv_yes Y _ HY.out (by omega)).mono ?_
  rintro e w1 ⟨rfl, rfl⟩
  go_wp2_with fail
  refine (dv_yes M _ HM.out (by omega)).mono ?_
  rintro e w2 ⟨rfl, rfl⟩
  go_wp2_with fail
  refine (dv_yes D _ HD.out (by omega)).mono ?_
  rintro e w3 ⟨rfl, rfl⟩
  go_wp2_with fail
  exact bodyPost_ret (results_tmp4 rfl _ _ _) rfl ⟨rfl, rfl⟩

theorem list_take_drop {L : List UInt8} (a b : Nat) : (⟨L.toArray⟩ : ByteArray).extract a b = ⟨((L.drop a).take (b - a)).toArray⟩ := by
  apply ByteArray.ext
  simp

/-- 'dateFields' at a text of the right shape. -/
theorem dateFields_ok (Y M D : List UInt8) (w : World) (hY : Y.length = 4) (hM : M.length = 2) (hD : D.length = 2) (dY : allDig Y = true) (dM : allDig M = true) (dD : allDig D = true) :
    Calls Try.prog 28 #[.string ⟨(Y ++ 45 :: (M ++ 45 :: D)).toArray⟩] w fun e w' => e = .returned (.tuple #[.int .i64 (val Y), .int .i64 (val M), .int .i64 (val D), .bool true]) ∧ w' = w := by
  match Y, hY, M, hM, D, hD with
  | [y0, y1, y2, y3], _, [m0, m1], _, [d0, d1], _ =>
    exact dateFields_core _ _ _ _ w rfl rfl rfl (list_take_drop 0 4) (list_take_drop 5 7) (list_take_drop 8 10) (by simp) (by simp) (by simp) dY dM dD

theorem ZZdateFields_ok (Y M D : List UInt8) (w : World) (hY : Y.length = 4) (hM : M.length = 2) (hD : D.length = 2) (dY : allDig Y = true) (dM : allDig M = true) (dD : allDig D = true) :
    Calls Try.prog 18 #[.string ⟨(Y ++ 45 :: (M ++ 45 :: D)).toArray⟩] w fun e w' => e = .returned (.tuple #[.int .i64 (val Y), .int .i64 (val M), .int .i64 (val D), .bool true]) ∧ w' = w := by
  have H := fun w => dateFields_ok Y M D w hY hM hD dY dM dD
  clear hY hM hD dY dM dD
  generalize (⟨(Y ++ 45 :: (M ++ 45 :: D)).toArray⟩ : ByteArray) = S at *
  generalize val Y = y at *
  generalize val M = m at *
  generalize val D = d at *
  have HH : Hid (∀ w, Calls Try.prog 28 #[.string S] w fun e w' => e = .returned (.tuple #[.int .i64 y, .int .i64 m, .int .i64 d, .bool true]) ∧ w' = w) := H
  clear H
  go_enter Try.func18, Try.ntmps18
  go_wp2_with fail
  refine Calls.mono (HH.out _) ?_
  rintro e w3 ⟨rfl, rfl⟩
  go_wp2_with fail
  exact bodyPost_ret (results_tmp4 rfl _ _ _) rfl ⟨rfl, rfl⟩
end Go.Proofs.Qxb6001398a
