import Derived.Test.Qxb6001398aDate
namespace Go.Proofs.Qxb6001398a
open Go.RowKit
open Plain

theorem date_text (Y M D : List UInt8) : (⟨Y.toArray⟩ : ByteArray) ++ ⟨#[45]⟩ ++ ⟨M.toArray⟩ ++ ⟨#[45]⟩ ++ ⟨D.toArray⟩ = ⟨(Y ++ 45 :: (M ++ 45 :: D)).toArray⟩ := by
  apply ByteArray.ext; simp

set_option maxHeartbeats 800000 in
theorem lawB (y m d : Nat) (w : World) (hy : y ≤ 9999) (hm : m ≤ 99) (hd : d ≤ 99) :
    Calls Try.prog 6 #[.int .i64 y, .int .i64 m, .int .i64 d] w fun e w' => e = .returned (.bool true) ∧ Below w.heap.size w w' := by
  have lY := pad_len y 4 (by omega) (by omega)
  have lM := pad_len m 2 (by omega) (by omega)
  have lD := pad_len d 2 (by omega) (by omega)
  have cT := fun w => ZZdateFields_ok (pad y 4) (pad m 2) (pad d 2) w lY lM lD (pad_allDig _ _) (pad_allDig _ _) (pad_allDig _ _)
  rw [pad_val y 4 (by omega), pad_val m 2 (by omega), pad_val d 2 (by omega), ← date_text] at cT
  have cY := fun w => pad_any y 4 w (by omega) (itoa_len 4 y (by omega) (by omega)) (by omega)
  have cM := fun w => pad_any m 2 w (by omega) (itoa_len 2 m (by omega) (by omega)) (by omega)
  have cD := fun w => pad_any d 2 w (by omega) (itoa_len 2 d (by omega) (by omega)) (by omega)
  have sY := size_of_list (pad y 4)
  have sM := size_of_list (pad m 2)
  have sD := size_of_list (pad d 2)
  rw [lY] at sY
  rw [lM] at sM
  rw [lD] at sD
  clear lY lM lD
  generalize (⟨(pad y 4).toArray⟩ : ByteArray) = Y at *
  generalize (⟨(pad m 2).toArray⟩ : ByteArray) = M at *
  generalize (⟨(pad d 2).toArray⟩ : ByteArray) = D at *
  have HY : Hid (∀ w, Calls Try.prog 17 #[.int .i64 (y : Int), .int .i64 4] w fun e w' => e = .returned (.string Y) ∧ Below w.heap.size w w') := cY
  have HM : Hid (∀ w, Calls Try.prog 17 #[.int .i64 (m : Int), .int .i64 2] w fun e w' => e = .returned (.string M) ∧ Below w.heap.size w w') := cM
  have HD : Hid (∀ w, Calls Try.prog 17 #[.int .i64 (d : Int), .int .i64 2] w fun e w' => e = .returned (.string D) ∧ Below w.heap.size w w') := cD
  have HT : Hid (∀ w, Calls Try.prog 18 #[.string (Y ++ ⟨#[45]⟩ ++ M ++ ⟨#[45]⟩ ++ D)] w fun e w' => e = .returned (.tuple #[.int .i64 (y : Int), .int .i64 (m : Int), .int .i64 (d : Int), .bool true]) ∧ w' = w) := cT
  clear cY cM cD cT
  go_enter Try.func6, Try.ntmps6
  go_wp2_with fail
  refine Calls.mono (HY.out _) ?_
  rintro e w1 ⟨rfl, hb1⟩
  go_wp2_with fail
  refine Calls.mono (HM.out _) ?_
  rintro e w2 ⟨rfl, hb2⟩
  go_wp2_with fail
  refine Calls.mono (HD.out _) ?_
  rintro e w3 ⟨rfl, hb3⟩
  go_wp2_with fail
  refine Calls.mono (HT.out _) ?_
  rintro e w4 ⟨rfl, rfl⟩
  go_wp2_with fail
  go_ret
  exact ⟨rfl, (hb1.trans (hb2.mono hb1.size)).trans (hb3.mono (Nat.le_trans hb1.size hb2.size))⟩

theorem walkB (a0 : Int) (a1 : Int) (a2 : Int) (_w0 : (Lit.int .i64 a0).wf = true) (_w1 : (Lit.int .i64 a1).wf = true) (_w2 : (Lit.int .i64 a2).wf = true) (w : World) :
    Calls Try.prog 6 #[.int .i64 a0, .int .i64 a1, .int .i64 a2] w fun e w' => e = .returned (.bool true) ∧ Below w.heap.size w w' := by
  by_cases h1 : a0 < 0
  · go_enter Try.func6, Try.ntmps6
    go_wp2
    go_ret
    exact ⟨rfl, Below.refl _ _⟩
  by_cases h2 : 9999 < a0
  · go_enter Try.func6, Try.ntmps6
    go_wp2
    go_ret
    exact ⟨rfl, Below.refl _ _⟩
  by_cases h3 : a1 < 0
  · go_enter Try.func6, Try.ntmps6
    go_wp2
    go_ret
    exact ⟨rfl, Below.refl _ _⟩
  by_cases h4 : 99 < a1
  · go_enter Try.func6, Try.ntmps6
    go_wp2
    go_ret
    exact ⟨rfl, Below.refl _ _⟩
  by_cases h5 : a2 < 0
  · go_enter Try.func6, Try.ntmps6
    go_wp2
    go_ret
    exact ⟨rfl, Below.refl _ _⟩
  by_cases h6 : 99 < a2
  · go_enter Try.func6, Try.ntmps6
    go_wp2
    go_ret
    exact ⟨rfl, Below.refl _ _⟩
  obtain ⟨y, rfl⟩ := Int.eq_ofNat_of_zero_le (show 0 ≤ a0 by omega)
  obtain ⟨m, rfl⟩ := Int.eq_ofNat_of_zero_le (show 0 ≤ a1 by omega)
  obtain ⟨d, rfl⟩ := Int.eq_ofNat_of_zero_le (show 0 ≤ a2 by omega)
  exact lawB y m d w (by omega) (by omega) (by omega)
end Go.Proofs.Qxb6001398a
