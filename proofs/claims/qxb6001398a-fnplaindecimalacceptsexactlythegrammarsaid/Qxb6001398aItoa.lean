import Derived.Test.Qxb6001398aDigits
import Derived.Lib.SlBytesRow
namespace Go.Proofs.Qxb6001398a
open Go.RowKit
open Plain

/-- What the loop of b1Itoa holds: the number still to write is m, the next free place is p, the bytes from p on are 'tail'. -/
structure ItoaInv (B : Nat) (w : World) (n0 m p : Nat) (tail : List UInt8) (wr : World) : Prop where
  hp : p ≤ 20
  hm : m < 10 ^ p
  hle : m ≤ n0
  hmn : p = 20 → m = n0
  len : tail.length + p = 20
  digs : digs 20 n0 = digs p m ++ tail
  cells : Lib.Bytes wr B p ⟨tail.toArray⟩
  held : ∀ j, j < 20 → ∃ v, wr.cell? ⟨B, j, none⟩ = some v
  frozen : ∀ j, wr.frozen? ⟨B, j, none⟩ = false
  grown : Below w.heap.size w wr

theorem ItoaInv.step {B : Nat} {w wr : World} {n0 m p : Nat} {tail : List UInt8} (h : ItoaInv B w n0 m p tail wr) (hm0 : 0 < m) (hB : w.heap.size ≤ B) (v : Value) (hv : v = .int .u8 (48 + (m : Int) % 10)) :
    ItoaInv B w n0 (m / 10) (p - 1) (UInt8.ofNat (48 + m % 10) :: tail) (wr.setCell ⟨B, p - 1, none⟩ v) := by
  obtain ⟨hp, hm, hle, hmn, len, hd, cells, hs, fz, gr⟩ := h
  have hp0 : p ≠ 0 := by intro e; subst e; simp at hm; omega
  obtain ⟨q, rfl⟩ : ∃ q, p = q + 1 := ⟨p - 1, by omega⟩
  simp only [Nat.add_sub_cancel]
  refine ⟨by omega, by rw [Nat.pow_succ] at hm; omega, by omega, by omega, by simp; omega, ?_, ?_, ?_, ?_, ?_⟩
  · rw [hd, digs_succ q m (by omega)]; simp
  · intro i hi
    cases i with
    | zero =>
      obtain ⟨u, hu⟩ := hs q (by omega)
      rw [Nat.add_zero, World.cell?_setCell_same wr _ _ hu, hv]
      have := byte_dig (m % 10) (Nat.mod_lt _ (by omega))
      show some (Value.int .u8 (48 + (m : Int) % 10)) = some (Value.int .u8 ((UInt8.ofNat (48 + m % 10)).toNat : Int))
      rw [this]; simp
    | succ i =>
      have hi' : i < (⟨tail.toArray⟩ : ByteArray).size := by
        have : (⟨(UInt8.ofNat (48 + m % 10) :: tail).toArray⟩ : ByteArray).size = tail.length + 1 := by simp [ByteArray.size]
        have h2 : (⟨tail.toArray⟩ : ByteArray).size = tail.length := by simp [ByteArray.size]
        omega
      rw [World.cell?_setCell_other _ _ _ _ (by simp)]
      have := cells i hi'
      rw [show q + (i + 1) = q + 1 + i by omega, this]
      rfl
  · intro j hj
    obtain ⟨u, hu⟩ := hs j hj
    exact cell?_setCell_some hu
  · intro j; rw [World.frozen?_setCell]; exact fz j
  · exact gr.setCell hB _

theorem itoa_start_cell (w : World) : ∀ j, j < 20 → ∃ v, (w.alloc (.cells #[.int .u8 0, .int .u8 0, .int .u8 0, .int .u8 0, .int .u8 0, .int .u8 0, .int .u8 0, .int .u8 0, .int .u8 0, .int .u8 0, .int .u8 0, .int .u8 0, .int .u8 0, .int .u8 0, .int .u8 0, .int .u8 0, .int .u8 0, .int .u8 0, .int .u8 0, .int .u8 0] 39)).cell? ⟨w.heap.size, j, none⟩ = some v := by
  intro j hj
  rw [World.cell?_alloc_at _ _ _ _ rfl]
  exact ⟨_, Array.getElem?_eq_getElem (by simpa using hj)⟩

theorem itoa_start_frozen (w : World) {C : Array Value} {T : TypeId} : ∀ j, (w.alloc (.cells C T)).frozen? ⟨w.heap.size, j, none⟩ = false := by
  intro j
  exact World.frozen?_alloc_at _ _ _ _ rfl

theorem arr39 : Try.prog.underlying 39 = some (.array (Try.prog.arrayLen 39) (Try.prog.elem 39)) := by kernel_rfl
theorem len39 : Try.prog.arrayLen 39 = 20 := by kernel_rfl
theorem size39 (w : World) : (sizeOf (Try.prog.elem 39)).run Try.prog w = .ok 1 w := by kernel_rfl

theorem slice_buf (w : World) (B p : Nat) (hp : p < 20) :
    (Instr.sliceAt 39 (.pointer (some ⟨B, 0, none⟩)) (some (.int .i64 (p : Int))) none none).run Try.prog w = .ok (.slice (some ⟨B, p, none⟩) (20 - p) (20 - p)) w := by
  rw [run_sliceAt_array_l w 39 _ arr39 .i64 (p : Int) (by omega) (by rw [len39]; omega), size39, len39]
  have h20 : ¬ (20 = p) := by omega
  simp [Result.andThen, slicedAt, Addr.add, h20]
  intro h; exact h.symm

theorem ret_str {a b : List UInt8} (h : a = b) : Ending.returned (.string ⟨a.toArray⟩) = .returned (.string ⟨b.toArray⟩) := by rw [h]

set_option maxHeartbeats 400000 in
theorem itoa_pos (n : Int) (w : World) (hn : 0 < n) (hm : n ≤ 9223372036854775807) :
    Calls Try.prog 12 #[.int .i64 n] w fun e w' => e = .returned (.string ⟨(digs 20 n.toNat).toArray⟩) ∧ Below w.heap.size w w' := by
  obtain ⟨n0, rfl⟩ := Int.eq_ofNat_of_zero_le (show 0 ≤ n by omega)
  rw [Int.toNat_natCast]
  go_enter Try.func12, Try.ntmps12
  go_wp2
  go_loopw [0, 4] (fun nv iv wr => ∃ (m p : Nat) (tail : List UInt8), nv = .int .i64 m ∧ iv = .int .i64 p ∧ ItoaInv w.heap.size w n0 m p tail wr) (fun _ i _ => (intOf i).toNat)
  case atStart => exact ⟨n0, 20, [], rfl, rfl, by omega, by omega, Nat.le_refl _, fun _ => rfl, rfl, by simp, fun i hi => by simp [ByteArray.size] at hi, itoa_start_cell w, itoa_start_frozen w, (Below.refl _ _).alloc (Nat.le_refl _) _⟩
  case round =>
    obtain ⟨m, p, tail, rfl, rfl, hinv⟩ := hrel
    have hp := hinv.hp
    by_cases hm0 : 0 < m
    · have hm9 : (m : Int) ≤ 9223372036854775807 := by have := hinv.hle; omega
      obtain ⟨v, hv⟩ := hinv.held (p - 1) (by omega)
      have hf := hinv.frozen (p - 1)
      have hp1 : 1 ≤ p := by
        have := hinv.hm
        rcases Nat.eq_zero_or_pos p with e | e
        · subst e; simp at this; omega
        · exact e
      go_wp2
      go_roundw
      case rel => exact ⟨m / 10, p - 1, _, by go_num, by go_num, hinv.step hm0 (Nat.le_refl _) _ rfl⟩
      case measure => simp [intOf]; omega
    · have hp2 : p < 20 := by
        have := hinv.hmn
        omega
      have hm1 : m = 0 := by omega
      have HD : Hid (digs 20 n0 = tail) := by have := hinv.digs; rw [hm1, digs_zero] at this; exact this
      have hconv := Lib.run_convert_whole (P := Try.prog) wr 23 5 9 Try.underlying23 Try.underlying5 Try.underlying9 w.heap.size p ⟨tail.toArray⟩ hinv.cells (20 - p)
      have hsz : (⟨tail.toArray⟩ : ByteArray).size = 20 - p := by have := hinv.len; simp [ByteArray.size]; omega
      rw [hsz] at hconv
      have hsl := slice_buf wr w.heap.size p hp2
      clear hsz
      go_wp2
      go_ret
      exact ⟨ret_str HD.out.symm, hinv.grown⟩

theorem itoa_any (n : Int) (w : World) (hm : n ≤ 9223372036854775807) :
    Calls Try.prog 12 #[.int .i64 n] w fun e w' => e = .returned (.string ⟨(itoa n.toNat).toArray⟩) ∧ Below w.heap.size w w' := by
  by_cases hn : 0 < n
  · refine (itoa_pos n w hn hm).mono ?_
    rintro e w' ⟨rfl, hg⟩
    refine ⟨?_, hg⟩
    unfold itoa
    rw [if_neg (by omega)]
  · have h0 : n.toNat = 0 := by omega
    have h1 : n ≤ 0 := by omega
    rw [h0]
    clear hn h0
    go_enter Try.func12, Try.ntmps12
    go_wp2
    go_ret
    exact ⟨rfl, Below.refl _ _⟩
end Go.Proofs.Qxb6001398a
