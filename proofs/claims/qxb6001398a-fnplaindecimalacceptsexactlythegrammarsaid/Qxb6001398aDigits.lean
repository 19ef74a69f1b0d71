import Derived.Test.Qxb6001398aRows
import Derived.Test.Qxb6001398aPlain
import Derived.WalkKit
import Derived.WalkSpells
import Derived.WalkLawsBesides
namespace Go.Proofs.Qxb6001398a
open Go.RowKit
open Plain

theorem take_snoc (s : ByteArray) (k : Nat) (h : k < s.size) : s.data.toList.take (k + 1) = s.data.toList.take k ++ [s[k]] := by
  rw [List.take_succ_eq_append_getElem (by simpa using h)]; rfl

theorem byte_at? (s : ByteArray) (k : Nat) (h : k < s.size) : s.data.toList[k]? = some s[k] := by
  rw [List.getElem?_eq_getElem (by simpa using h)]; rfl

theorem ret_dv {a b : Int} {p q : Bool} (h : a = b) (g : p = q) : Ending.returned (.tuple #[.int .i64 a, .bool p]) = .returned (.tuple #[.int .i64 b, .bool q]) := by rw [h, g]

set_option maxHeartbeats 400000 in
theorem digitsValue_any (s : ByteArray) (w : World) (hs : s.size ≤ maxLen) :
    Calls Try.prog 27 #[.string s] w fun e w' => e = .returned (.tuple #[.int .i64 (dvV s.data.toList), .bool (allDig s.data.toList)]) ∧ w' = w := by
  unfold maxLen at hs
  go_enter Try.func27, Try.ntmps27
  go_wp2
  go_loop [4, 5] (fun n i => ∃ k : Nat, k ≤ s.size ∧ i = .int .i64 k ∧ allDig (s.data.toList.take k) = true ∧ n = .int .i64 (val (s.data.toList.take k))) (fun _ i => s.size - (intOf i).toNat)
  case atStart => exact ⟨0, Nat.zero_le _, rfl, rfl, rfl⟩
  case round =>
    obtain ⟨k, hk, rfl, had, rfl⟩ := hrel
    have HA : Hid (allDig (s.data.toList.take k) = true) := had
    clear had
    by_cases hlt : k < s.size
    · by_cases hd : 48 ≤ (s[k].toNat : Int) ∧ (s[k].toNat : Int) ≤ 57
      · obtain ⟨hd1, hd2⟩ := hd
        go_wp2
        go_round
        case rel => exact ⟨k + 1, by omega, by go_num, by rw [take_snoc s k hlt, allDig_snoc, HA.out, isDig_yes _ ⟨hd1, hd2⟩]; rfl, by rw [take_snoc s k hlt, val_snoc]; rfl⟩
        case measure => simp [intOf]; omega
      · have hn := allDig_no s.data.toList k s[k] (byte_at? s k hlt) (isDig_no _ (by omega))
        have HN : Hid (allDig s.data.toList = false) := hn
        clear hn
        by_cases hd1 : (s[k].toNat : Int) < 48
        · clear hd
          go_wp2
          go_ret2
          exact ⟨ret_dv (dvV_no HN.out).symm HN.out.symm, rfl⟩
        · have hd2 : 57 < (s[k].toNat : Int) := by omega
          have hd3 : 48 ≤ (s[k].toNat : Int) := by omega
          clear hd hd1
          go_wp2
          go_ret2
          exact ⟨ret_dv (dvV_no HN.out).symm HN.out.symm, rfl⟩
    · go_wp2
      go_ret2
      have he : s.data.toList.take k = s.data.toList := List.take_of_length_le (by simp; omega)
      have hy := HA.out
      rw [he] at hy
      exact ⟨ret_dv (by rw [dvV_yes hy, he]) hy.symm, rfl⟩

theorem ZZdigitsValue_any (s : ByteArray) (w : World) (hs : s.size ≤ maxLen) :
    Calls Try.prog 13 #[.string s] w fun e w' => e = .returned (.tuple #[.int .i64 (dvV s.data.toList), .bool (allDig s.data.toList)]) ∧ w' = w := by
  go_enter Try.func13, Try.ntmps13
  go_wp2_with (go_at_call 27; refine (digitsValue_any _ _ hs).mono ?_; rintro e w' ⟨rfl, rfl⟩)
  go_ret2
  exact ⟨rfl, rfl⟩
end Go.Proofs.Qxb6001398a
