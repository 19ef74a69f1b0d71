import Derived.Test.Qxb6001451aTree
import Derived.OpenShut
namespace Go.Proofs.Qxb6001451a
open Go.RowKit

theorem hide {p : Prop} (h : p) : Hid p := h
theorem name_it {α : Type} (x : α) : ∃ y, Hid (y = x) := ⟨x, rfl⟩
theorem ret_int {k : IntKind} {a b : Int} (h : a = b) : Ending.returned (.int k a) = .returned (.int k b) := by rw [h]

/-- It hands back a bool; where that is true, P. -/
def RetB (e : Ending) (P : Prop) : Prop := ∃ b, e = .returned (.bool b) ∧ (b = true → P)
/-- It hands back an int with P. -/
def RetI (e : Ending) (P : Int → Prop) : Prop := ∃ r : Int, e = .returned (.int .i64 r) ∧ P r

def IdOk (z : Int) : Prop := 0 ≤ z ∧ z < 65536

theorem take_all {P : Int → Prop} {zs : List Int} {k : Nat} (hk : k < zs.length) (h : ∀ z ∈ zs.take k, P z) (hz : P zs[k]) : ∀ z ∈ zs.take (k + 1), P z := by
  rw [List.take_succ_eq_append_getElem hk]
  intro z hzm
  rcases List.mem_append.1 hzm with e | e
  · exact h z e
  · rw [List.mem_singleton.1 e]; exact hz

set_option maxHeartbeats 400000 in
theorem idsFit_any (v : Value) (zs : List Int) (w : World) (hv : Ints w v zs) :
    Calls Try.prog 12 #[v] w fun e w' => RetB e (∀ z ∈ zs, IdOk z) ∧ w' = w := by
  obtain ⟨hwf, a, cap, rfl, hlc, hcm, hnil, hcell⟩ := hv
  have HC := hide hcell
  have hlm : zs.length ≤ 9223372036854775807 := by unfold maxLen at hcm; omega
  clear hcell hwf hcm hnil
  go_enter Try.func12, Try.ntmps12
  go_wp2
  go_loop [7] (fun iv => ∃ k : Nat, k ≤ zs.length ∧ iv = .int .i64 (k : Int) ∧ Hid (∀ z ∈ zs.take k, IdOk z)) (fun iv => zs.length - (intOf iv).toNat)
  case atStart => exact ⟨0, Nat.zero_le _, rfl, fun z hz => by simp at hz⟩
  case round =>
    obtain ⟨k, hk, rfl, HA⟩ := hrel
    by_cases hlt : k < zs.length
    · obtain ⟨b, off, rfl, hc⟩ := HC.out k hlt
      obtain ⟨z, Hz⟩ := name_it zs[k]
      rw [← Hz.out] at hc
      by_cases h1 : z < 0
      · go_wp2
        go_ret
        exact ⟨⟨false, rfl, fun h => by cases h⟩, rfl⟩
      · by_cases h2 : 65536 ≤ z
        · have h3 : 0 ≤ z := by omega
          have h4 : decide (z < 0) = false := by rw [decide_eq_false_iff_not]; omega
          clear h1
          go_wp2
          go_ret
          exact ⟨⟨false, rfl, fun h => by cases h⟩, rfl⟩
        · have HA' : Hid (∀ z ∈ zs.take (k + 1), IdOk z) := take_all hlt HA.out (by rw [← Hz.out]; unfold IdOk; omega)
          have h3 : 0 ≤ z := by omega
          have h4 : z < 65536 := by omega
          have h5 : decide (z < 0) = false := by rw [decide_eq_false_iff_not]; omega
          have h6 : decide (65536 ≤ z) = false := by rw [decide_eq_false_iff_not]; omega
          clear h1 h2
          go_wp2
          go_round
          case rel => exact ⟨k + 1, by omega, by go_num, HA'⟩
          case measure => simp [intOf]; omega
    · go_wp2
      go_ret
      exact ⟨⟨true, rfl, fun _ => by have := HA.out; rw [List.take_of_length_le (by omega)] at this; exact this⟩, rfl⟩

set_option maxHeartbeats 400000 in
theorem maxID_any (v : Value) (zs : List Int) (m : Int) (w : World) (hv : Ints w v zs) (hok : ∀ z ∈ zs, IdOk z) (hm : IdOk m) :
    Calls Try.prog 15 #[v, .int .i64 m] w fun e w' => RetI e (fun r => IdOk r ∧ m ≤ r ∧ ∀ z ∈ zs, z ≤ r) ∧ w' = w := by
  obtain ⟨hwf, a, cap, rfl, hlc, hcm, hnil, hcell⟩ := hv
  have HC := hide hcell
  have HO := hide hok
  have HM := hide hm
  have hlm : zs.length ≤ 9223372036854775807 := by unfold maxLen at hcm; omega
  clear hcell hwf hcm hnil hok hm
  go_enter Try.func15, Try.ntmps15
  go_wp2
  go_loop [1, 9] (fun mv iv => ∃ (k : Nat) (r : Int), k ≤ zs.length ∧ iv = .int .i64 (k : Int) ∧ mv = .int .i64 r ∧ Hid (IdOk r ∧ m ≤ r ∧ ∀ z ∈ zs.take k, z ≤ r)) (fun _ iv => zs.length - (intOf iv).toNat)
  case atStart => exact ⟨0, m, Nat.zero_le _, rfl, rfl, HM.out, Int.le_refl _, fun z hz => by simp at hz⟩
  case round =>
    obtain ⟨k, r, hk, rfl, rfl, HA⟩ := hrel
    by_cases hlt : k < zs.length
    · obtain ⟨b, off, rfl, hc⟩ := HC.out k hlt
      have Hzo : Hid (IdOk zs[k]) := HO.out _ (List.getElem_mem hlt)
      obtain ⟨z, Hz⟩ := name_it zs[k]
      rw [← Hz.out] at hc
      by_cases h1 : r < z
      · have HA' : Hid (IdOk z ∧ m ≤ z ∧ ∀ x ∈ zs.take (k + 1), x ≤ z) := by
          obtain ⟨g1, g2, g3⟩ := HA.out
          exact ⟨by rw [Hz.out]; exact Hzo.out, by omega, take_all hlt (fun x hx => by have := g3 x hx; omega) (by rw [← Hz.out]; exact Int.le_refl _)⟩
        go_wp2
        go_round
        case rel => exact ⟨k + 1, z, by omega, by go_num, rfl, HA'⟩
        case measure => simp [intOf]; omega
      · have HA' : Hid (IdOk r ∧ m ≤ r ∧ ∀ x ∈ zs.take (k + 1), x ≤ r) := by
          obtain ⟨g1, g2, g3⟩ := HA.out
          exact ⟨g1, g2, take_all hlt g3 (by rw [← Hz.out]; omega)⟩
        have h2 : z ≤ r := by omega
        clear h1
        go_wp2
        go_round
        case rel => exact ⟨k + 1, r, by omega, by go_num, rfl, HA'⟩
        case measure => simp [intOf]; omega
    · go_wp2
      go_ret
      obtain ⟨g1, g2, g3⟩ := HA.out
      exact ⟨⟨r, rfl, g1, g2, by rw [List.take_of_length_le (by omega)] at g3; exact g3⟩, rfl⟩

theorem wordsFor_any (m : Int) (w : World) (h : IdOk m) : Calls Try.prog 13 #[.int .i64 m] w fun e w' => e = .returned (.int .i64 (m / 64 + 1)) ∧ w' = w := by
  obtain ⟨h1, h2⟩ := h
  go_enter Try.func13, Try.ntmps13
  go_wp2
  go_ret
  exact ⟨rfl, rfl⟩
end Go.Proofs.Qxb6001451a
