import Derived.Test.Qxb6001398aLawA
namespace Go.Proofs.Qxb6001398a
open Go.RowKit
open Plain

theorem ret_bool {a b : Bool} (h : a = b) : Ending.returned (.bool a) = .returned (.bool b) := by rw [h]

theorem isDigit_any (c : UInt8) (w : World) :
    Calls Try.prog 20 #[.int .u8 (c.toNat : Int)] w fun e w' => e = .returned (.bool (isDig c)) ∧ w' = w := by
  by_cases h1 : 48 ≤ (c.toNat : Int)
  · by_cases h2 : (c.toNat : Int) ≤ 57
    · have H : Hid (isDig c = true) := isDig_yes c ⟨h1, h2⟩
      go_enter Try.func20, Try.ntmps20
      go_wp2
      go_ret
      exact ⟨ret_bool (by simp [H.out]), rfl⟩
    · have H : Hid (isDig c = false) := isDig_no c (by omega)
      have h3 : 57 < (c.toNat : Int) := by omega
      have h4 : decide ((c.toNat : Int) ≤ 57) = false := by simp; omega
      go_enter Try.func20, Try.ntmps20
      go_wp2
      go_ret
      exact ⟨ret_bool (by rw [H.out]), rfl⟩
  · have H : Hid (isDig c = false) := isDig_no c (by omega)
    have h3 : (c.toNat : Int) < 48 := by omega
    have h4 : decide (48 ≤ (c.toNat : Int)) = false := by simp; omega
    clear h1
    go_enter Try.func20, Try.ntmps20
    go_wp2
    go_ret
    exact ⟨ret_bool (by rw [H.out]), rfl⟩

theorem isDigit_yes (c : UInt8) (w : World) (h : isDig c = true) :
    Calls Try.prog 20 #[.int .u8 (c.toNat : Int)] w fun e w' => e = .returned (.bool true) ∧ w' = w := by
  have := isDigit_any c w; rw [h] at this; exact this
theorem isDigit_no (c : UInt8) (w : World) (h : isDig c = false) :
    Calls Try.prog 20 #[.int .u8 (c.toNat : Int)] w fun e w' => e = .returned (.bool false) ∧ w' = w := by
  have := isDigit_any c w; rw [h] at this; exact this

set_option maxHeartbeats 400000 in
theorem allDigits_any (s : ByteArray) (w : World) (hs : s.size ≤ maxLen) :
    Calls Try.prog 15 #[.string s] w fun e w' => e = .returned (.bool (allDig s.data.toList)) ∧ w' = w := by
  unfold maxLen at hs
  go_enter Try.func15, Try.ntmps15
  go_wp2
  go_loop [3] (fun i => ∃ k : Nat, k ≤ s.size ∧ i = .int .i64 k ∧ allDig (s.data.toList.take k) = true) (fun i => s.size - (intOf i).toNat)
  case atStart => exact ⟨0, Nat.zero_le _, rfl, rfl⟩
  case round =>
    obtain ⟨k, hk, rfl, had⟩ := hrel
    have HA : Hid (allDig (s.data.toList.take k) = true) := had
    clear had
    by_cases hlt : k < s.size
    · cases hd : isDig s[k] with
      | true =>
        have HD : Hid (isDig s[k] = true) := hd
        clear hd
        go_wp2_with (go_at_call 20; refine (isDigit_yes _ _ HD.out).mono ?_; rintro e w' ⟨rfl, rfl⟩)
        go_round
        case rel => exact ⟨k + 1, by omega, by go_num, by rw [take_snoc s k hlt, allDig_snoc, HA.out, HD.out]; rfl⟩
        case measure => simp [intOf]; omega
      | false =>
        have HN : Hid (allDig s.data.toList = false) := allDig_no s.data.toList k s[k] (byte_at? s k hlt) hd
        have HD : Hid (isDig s[k] = false) := hd
        clear hd
        go_wp2_with (go_at_call 20; refine (isDigit_no _ _ HD.out).mono ?_; rintro e w' ⟨rfl, rfl⟩)
        go_ret
        exact ⟨ret_bool HN.out.symm, rfl⟩
    · go_wp2
      go_ret
      have he : s.data.toList.take k = s.data.toList := List.take_of_length_le (by simp; omega)
      have hy := HA.out
      rw [he] at hy
      exact ⟨ret_bool hy.symm, rfl⟩
end Go.Proofs.Qxb6001398a
