import Derived.Test.Qxb6001398aAllDigits
import Derived.Test.Qxb6001398aDate
import Derived.Test.Qxb6001398aGrammar
import Derived.Deep.RegionWith
import Derived.BigQuiet
namespace Go.Proofs.Qxb6001398a
open Go.RowKit
open Plain

/-- Nothing has turned but cell 3 of block B. -/
structure OnlyCell (B : Nat) (w w' : World) : Prop where
  os : w'.os = w.os
  tape : w'.tape = w.tape
  output : w'.output = w.output
  size : w'.heap.size = w.heap.size
  block : ∀ k, k ≠ B → w'.heap[k]? = w.heap[k]?
  cell : ∀ o, o ≠ 3 → w'.cell? ⟨B, o, none⟩ = w.cell? ⟨B, o, none⟩
  frozen : ∀ o, w'.frozen? ⟨B, o, none⟩ = w.frozen? ⟨B, o, none⟩

theorem OnlyCell.refl (B : Nat) (w : World) : OnlyCell B w w := ⟨rfl, rfl, rfl, rfl, fun _ _ => rfl, fun _ _ => rfl, fun _ => rfl⟩
theorem OnlyCell.drew {B : Nat} {w w' : World} (h : OnlyCell B w w') : OnlyCell B w w'.drew := ⟨h.os, h.tape, h.output, h.size, h.block, h.cell, h.frozen⟩
theorem OnlyCell.setCell {B : Nat} {w w' : World} (h : OnlyCell B w w') (v : Value) : OnlyCell B w (w'.setCell ⟨B, 3, none⟩ v) :=
  ⟨h.os, h.tape, h.output, by simp [World.setCell, h.size], fun k hk => (Below.heap_setCell _ _ _ _ hk).trans (h.block k hk),
    fun o ho => (World.cell?_setCell_other _ _ _ _ (by intro e; cases e; exact ho rfl)).trans (h.cell o ho), fun o => (World.frozen?_setCell _ _ _ _).trans (h.frozen o)⟩

theorem ret_nat {a b : Nat} (h : a = b) : Ending.returned (.int .i64 (a : Int)) = .returned (.int .i64 (b : Int)) := by rw [h]

theorem rd_end (s : ByteArray) (i k : Nat) (hi : i ≤ s.size) (hik : i ≤ k) (hk : k ≤ s.size) (hA : ∀ j, i ≤ j → j < k → ∀ x, s.data.toList[j]? = some x → isDig x = true)
    (hend : k = s.size ∨ ∃ x, s.data.toList[k]? = some x ∧ isDig x = false) : k = i + (dI (s.data.toList.drop i)).length := by
  have hl : s.data.toList.length = s.size := by simp
  have := (while_pos isDig (s.data.toList.drop i) (k - i) (by rw [List.length_drop]; omega) (fun j x hj hx => by
      rw [List.getElem?_drop] at hx
      exact hA (i + j) (by omega) (by omega) x hx) (by
      rw [List.length_drop, List.getElem?_drop, show i + (k - i) = k by omega, hl]
      rcases hend with h | h
      · exact Or.inl (by omega)
      · exact Or.inr h)).1
  unfold dI
  rw [this, List.length_take, List.length_drop]
  omega

set_option maxHeartbeats 800000 in
theorem readDigits_any (B i : Nat) (s : ByteArray) (d0 : Int) (w : World) (hs : s.size ≤ 1048576) (hi : i ≤ s.size) (hc : w.cell? ⟨B, 3, none⟩ = some (.int .i64 d0)) (hf : w.frozen? ⟨B, 3, none⟩ = false) :
    Calls Try.prog 30 #[.pointer (some ⟨B, 0, none⟩), .string s, .int .i64 (i : Int)] w fun e w' =>
      e = .returned (.int .i64 ((i + (dI (s.data.toList.drop i)).length : Nat) : Int)) ∧ (∃ d : Int, w'.cell? ⟨B, 3, none⟩ = some (.int .i64 d)) ∧ OnlyCell B w w' := by
  go_enter Try.func30, Try.ntmps30
  go_wp2
  go_loopw [2] (fun iv wr => ∃ (k : Nat) (d : Int), i ≤ k ∧ k ≤ s.size ∧ iv = .int .i64 (k : Int) ∧ Hid (∀ j, i ≤ j → j < k → ∀ x, s.data.toList[j]? = some x → isDig x = true) ∧ wr.cell? ⟨B, 3, none⟩ = some (.int .i64 d) ∧ OnlyCell B w wr)
    (fun iv _ => s.size - (intOf iv).toNat)
  case atStart => exact ⟨i, d0, Nat.le_refl _, hi, rfl, fun j h1 h2 => by omega, hc, OnlyCell.refl _ _⟩
  case round =>
    obtain ⟨k, d, hik, hk, rfl, HA, hcr, hoc⟩ := hrel
    have hfr : wr.frozen? ⟨B, 3, none⟩ = false := (hoc.frozen 3).trans hf
    clear hc hf
    by_cases hlt : k < s.size
    · by_cases hd : 48 ≤ (s[k].toNat : Int) ∧ (s[k].toNat : Int) ≤ 57
      · obtain ⟨hd1, hd2⟩ := hd
        have HA' : Hid (∀ j, i ≤ j → j < k + 1 → ∀ x, s.data.toList[j]? = some x → isDig x = true) := by
          intro j h1 h2 x hx
          rcases Nat.lt_or_ge j k with h | h
          · exact HA.out j h1 h x hx
          · obtain rfl : j = k := by omega
            rw [byte_at? s j hlt] at hx
            cases hx
            exact isDig_yes _ ⟨hd1, hd2⟩
        go_wp2
        go_region
        go_wp2
        go_roundw
        case rel => exact ⟨k + 1, _, by omega, by omega, by go_num, HA', World.cell?_setCell_same _ _ _ hcr, (hoc.setCell _).drew⟩
        case measure => simp [intOf]; omega
      · have HE : Hid (k = i + (dI (s.data.toList.drop i)).length) := rd_end s i k hi hik hk HA.out (Or.inr ⟨s[k], byte_at? s k hlt, isDig_no _ (by omega)⟩)
        by_cases hd1 : (s[k].toNat : Int) < 48
        · have hd2 : decide (48 ≤ (s[k].toNat : Int)) = false := by simp; omega
          clear hd
          go_wp2
          go_ret
          exact ⟨ret_nat HE.out, ⟨d, hcr⟩, hoc⟩
        · have hd2 : 57 < (s[k].toNat : Int) := by omega
          have hd3 : 48 ≤ (s[k].toNat : Int) := by omega
          have hd4 : decide ((s[k].toNat : Int) ≤ 57) = false := by simp; omega
          clear hd hd1
          go_wp2
          go_ret
          exact ⟨ret_nat HE.out, ⟨d, hcr⟩, hoc⟩
    · have HE : Hid (k = i + (dI (s.data.toList.drop i)).length) := rd_end s i k hi hik hk HA.out (Or.inl (by omega))
      have hk2 : decide ((k : Int) < (s.size : Int)) = false := by simp; omega
      go_wp2
      go_ret
      exact ⟨ret_nat HE.out, ⟨d, hcr⟩, hoc⟩
end Go.Proofs.Qxb6001398a
