import Derived.Test.Qxb6001398aAllDigits
import Derived.Test.Qxb6001398aDate
import Derived.Deep.RegionWith
namespace Go.Proofs.Qxb6001398a
open Go.RowKit
open Plain

theorem zzBytes_yes (s : ByteArray) (w : World) (hs : s.size ≤ 1048576) :
    Calls Try.prog 14 #[.string s] w fun e w' => e = .returned (.bool true) ∧ w' = w := by
  go_enter Try.func14, Try.ntmps14
  go_wp2
  go_ret
  exact ⟨rfl, rfl⟩
theorem zzBytes_no (s : ByteArray) (w : World) (hs : s.size ≤ maxLen) (h : 1048576 < s.size) :
    Calls Try.prog 14 #[.string s] w fun e w' => e = .returned (.bool false) ∧ w' = w := by
  unfold maxLen at hs
  go_enter Try.func14, Try.ntmps14
  go_wp2
  go_ret
  exact ⟨rfl, rfl⟩

theorem C_long (s : ByteArray) (w : World) (hs : s.size ≤ maxLen) (h : 1048576 < s.size) :
    Calls Try.prog 4 #[.string s] w fun e w' => e = .returned (.bool true) ∧ Below w.heap.size w w' := by
  go_enter Try.func4, Try.ntmps4
  go_wp2_with (go_at_call 14; refine (zzBytes_no _ _ hs h).mono ?_; rintro e w' ⟨rfl, rfl⟩)
  go_ret
  exact ⟨rfl, Below.refl _ _⟩

theorem zzdv_no (s : ByteArray) (w : World) (hs : s.size ≤ maxLen) (h : allDig s.data.toList = false) :
    Calls Try.prog 13 #[.string s] w fun e w' => e = .returned (.tuple #[.int .i64 0, .bool false]) ∧ w' = w := by
  have := ZZdigitsValue_any s w hs; rw [h, dvV_no h] at this; exact this
theorem zzdv_yes (s : ByteArray) (w : World) (hs : s.size ≤ maxLen) (h : allDig s.data.toList = true) :
    Calls Try.prog 13 #[.string s] w fun e w' => e = .returned (.tuple #[.int .i64 (val s.data.toList), .bool true]) ∧ w' = w := by
  have := ZZdigitsValue_any s w hs; rw [h, dvV_yes h] at this; exact this
theorem ad_no (s : ByteArray) (w : World) (hs : s.size ≤ maxLen) (h : allDig s.data.toList = false) :
    Calls Try.prog 15 #[.string s] w fun e w' => e = .returned (.bool false) ∧ w' = w := by
  have := allDigits_any s w hs; rw [h] at this; exact this
theorem ad_yes (s : ByteArray) (w : World) (hs : s.size ≤ maxLen) (h : allDig s.data.toList = true) :
    Calls Try.prog 15 #[.string s] w fun e w' => e = .returned (.bool true) ∧ w' = w := by
  have := allDigits_any s w hs; rw [h] at this; exact this

theorem C_no (s : ByteArray) (w : World) (hs : s.size ≤ 1048576) (h : allDig s.data.toList = false) :
    Calls Try.prog 4 #[.string s] w fun e w' => e = .returned (.bool true) ∧ Below w.heap.size w w' := by
  have hm : s.size ≤ maxLen := by unfold maxLen; omega
  have HM : Hid (s.size ≤ maxLen) := hm
  have H : Hid (allDig s.data.toList = false) := h
  clear h hm
  go_enter Try.func4, Try.ntmps4
  go_wp2_with (first | (go_at_call 14; refine (zzBytes_yes _ _ hs).mono ?_; rintro e w' ⟨rfl, rfl⟩) | (go_at_call 13; refine (zzdv_no _ _ HM.out H.out).mono ?_; rintro e w' ⟨rfl, rfl⟩) | (go_at_call 15; refine (ad_no _ _ HM.out H.out).mono ?_; rintro e w' ⟨rfl, rfl⟩))
  go_ret
  exact ⟨rfl, Below.refl _ _⟩

theorem C_ten (s : ByteArray) (w : World) (hs : s.size ≤ 1048576) (h9 : 9 < s.size) (h : allDig s.data.toList = true) :
    Calls Try.prog 4 #[.string s] w fun e w' => e = .returned (.bool true) ∧ Below w.heap.size w w' := by
  have hm : s.size ≤ maxLen := by unfold maxLen; omega
  have HM : Hid (s.size ≤ maxLen) := hm
  have H : Hid (allDig s.data.toList = true) := h
  clear h hm
  go_enter Try.func4, Try.ntmps4
  go_wp2_with (first | (go_at_call 14; refine (zzBytes_yes _ _ hs).mono ?_; rintro e w' ⟨rfl, rfl⟩) | (go_at_call 13; refine (zzdv_yes _ _ HM.out H.out).mono ?_; rintro e w' ⟨rfl, rfl⟩) | (go_at_call 15; refine (ad_yes _ _ HM.out H.out).mono ?_; rintro e w' ⟨rfl, rfl⟩))
  go_ret
  exact ⟨rfl, Below.refl _ _⟩

theorem C_empty (w : World) :
    Calls Try.prog 4 #[.string ⟨#[]⟩] w fun e w' => e = .returned (.bool true) ∧ Below w.heap.size w w' := by
  have HM : Hid ((⟨#[]⟩ : ByteArray).size ≤ maxLen) := by show 0 ≤ maxLen; omega
  have H : Hid (allDig (⟨#[]⟩ : ByteArray).data.toList = true) := rfl
  go_enter Try.func4, Try.ntmps4
  go_wp2_with (first | (go_at_call 14; refine (zzBytes_yes _ _ (by decide)).mono ?_; rintro e w' ⟨rfl, rfl⟩) | (go_at_call 13; refine (zzdv_yes _ _ HM.out H.out).mono ?_; rintro e w' ⟨rfl, rfl⟩) | (go_at_call 15; refine (ad_yes _ _ HM.out H.out).mono ?_; rintro e w' ⟨rfl, rfl⟩))
  go_ret
  exact ⟨rfl, Below.refl _ _⟩

set_option maxHeartbeats 800000 in
theorem C_some (s : ByteArray) (w : World) (hs : s.size ≤ 9) (h0 : 0 < s.size) (h : allDig s.data.toList = true) :
    Calls Try.prog 4 #[.string s] w fun e w' => e = .returned (.bool true) ∧ Below w.heap.size w w' := by
  have hm : s.size ≤ maxLen := by unfold maxLen; omega
  have HM : Hid (s.size ≤ maxLen) := hm
  have H : Hid (allDig s.data.toList = true) := h
  have hne : (s.toList == []) = false := by
    rw [ByteArray.toList_eq]
    cases hl : s.data.toList with
    | nil => have e : s.data.toList.length = s.size := by simp
             rw [hl] at e
             simp only [List.length_nil] at e
             omega
    | cons a l => rfl
  obtain ⟨v, hv⟩ : ∃ v, v = val s.data.toList := ⟨_, rfl⟩
  have c13 := zzdv_yes s w hm h
  rw [← hv] at c13
  have HV : Hid (v = val s.data.toList) := hv
  have HC : Hid (Calls Try.prog 13 #[.string s] w fun e w' => e = .returned (.tuple #[.int .i64 v, .bool true]) ∧ w' = w) := c13
  clear h hm hv c13
  go_enter Try.func4, Try.ntmps4
  go_wp2_with (first | (go_at_call 14; refine (zzBytes_yes _ _ (by omega)).mono ?_; rintro e w' ⟨rfl, rfl⟩) | (go_at_call 13; refine Calls.mono HC.out ?_; rintro e w' ⟨rfl, rfl⟩) | (go_at_call 15; refine (ad_yes _ _ HM.out H.out).mono ?_; rintro e w' ⟨rfl, rfl⟩))
  go_loop [5] (fun i => ∃ j : Nat, j < s.size ∧ i = .int .i64 j ∧ Hid (∀ i, i < j → s.data.toList[i]? = some 48)) (fun i => s.size - (intOf i).toNat)
  case atStart => exact ⟨0, h0, rfl, fun i hi => by omega⟩
  case round =>
    obtain ⟨j, hj, rfl, HZ⟩ := hrel
    have fin : (j + 1 = s.size ∨ s.data.toList[j]? ≠ some 48) → 0 ≤ v ∧ Hid (∀ wx, Calls Try.prog 12 #[.int .i64 v] wx fun e w' => e = .returned (.string (s.extract j s.size)) ∧ Below wx.heap.size wx w') := by
      intro hend
      have hl9 : s.data.toList.length ≤ 9 := by simpa using hs
      obtain ⟨e1, e2⟩ := itoa_strip s.data.toList j H.out (by omega) (by simpa using hj) HZ.out (by simpa using hend)
      have e4 : val s.data.toList ≤ 9223372036854775807 := by
        have h1 := val_nval s.data.toList H.out (by omega)
        have h2 := nval_lt s.data.toList H.out
        have h3 : 10 ^ s.data.toList.length ≤ 10 ^ 9 := Nat.pow_le_pow_right (by omega) hl9
        omega
      refine ⟨by rw [HV.out]; exact e2, fun wy => ?_⟩
      have := itoa_any (val s.data.toList) wy e4
      rw [e1] at this
      rw [HV.out]
      have e3 : s.extract j s.size = ⟨(s.data.toList.drop j).toArray⟩ := by
        have h1 := list_take_drop (L := s.data.toList) j s.size
        rw [List.take_of_length_le (by simp)] at h1
        exact h1
      rw [e3]
      exact this
    by_cases hj1 : j + 1 < s.size
    · by_cases hz : s[j] = 48
      · have hz1 : ((s[j].toNat : Int) == 48) = true := by rw [hz]; rfl
        have HZ' : Hid (∀ i, i < j + 1 → s.data.toList[i]? = some 48) := by
          intro i hi
          rcases Nat.lt_or_ge i j with h | h
          · exact HZ.out i h
          · obtain rfl : i = j := by omega
            rw [byte_at? s i hj, hz]
        clear hz fin
        go_wp2
        go_round
        case rel => exact ⟨j + 1, by omega, by go_num, HZ'⟩
        case measure => simp [intOf]; omega
      · have hz1 : ((s[j].toNat : Int) == 48) = false := by
          rw [beq_eq_false_iff_ne]
          intro e
          apply hz
          apply UInt8.toNat_inj.1
          show s[j].toNat = 48
          omega
        obtain ⟨hv0, HI⟩ := fin (Or.inr (by rw [byte_at? s j hj]; simpa using hz))
        clear fin hz
        go_wp2
        go_region_with (go_at_call 12; refine Calls.mono (HI.out _) ?_; rintro e w' ⟨rfl, hb⟩)
        all_goals
          go_wp2
          go_ret
          exact ⟨rfl, (Below.refl _ _).drew.trans hb⟩
    · obtain ⟨hv0, HI⟩ := fin (Or.inl (by omega))
      have hj2 : s.size ≤ j + 1 := by omega
      have hj3 : decide ((j : Int) < (s.size : Int) - 1) = false := by simp; omega
      clear fin hj1
      go_wp2
      go_region_with (go_at_call 12; refine Calls.mono (HI.out _) ?_; rintro e w' ⟨rfl, hb⟩)
      all_goals
        go_wp2
        go_ret
        exact ⟨rfl, (Below.refl _ _).drew.trans hb⟩

theorem walkC (a0 : ByteArray) (w0 : a0.size ≤ maxLen) (w : World) :
    Calls Try.prog 4 #[.string a0] w fun e w' => e = .returned (.bool true) ∧ Below w.heap.size w w' := by
  by_cases h1 : 1048576 < a0.size
  · exact C_long a0 w w0 h1
  cases h2 : allDig a0.data.toList with
  | false => exact C_no a0 w (by omega) h2
  | true =>
    by_cases h3 : 9 < a0.size
    · exact C_ten a0 w (by omega) h3 h2
    by_cases h4 : a0.size = 0
    · have : a0 = ⟨#[]⟩ := by
        apply ByteArray.ext
        exact Array.eq_empty_of_size_eq_zero h4
      rw [this]
      exact C_empty w
    · exact C_some a0 w (by omega) (by omega) h2
end Go.Proofs.Qxb6001398a
