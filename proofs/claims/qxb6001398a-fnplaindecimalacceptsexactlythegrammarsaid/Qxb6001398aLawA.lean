import Derived.Test.Qxb6001398aItoa
namespace Go.Proofs.Qxb6001398a
open Go.RowKit
open Plain

theorem info5 : (Try.prog.info? 5).map (fun i => (i.zero, i.size, i.bytes)) = some (some (.int .u8 0), 1, 1) := by kernel_rfl

/-- Bytes as the cells of a row. -/
def cellsOf (l : List UInt8) : List Value := l.map fun c => .int .u8 (c.toNat : Int)

theorem cellsOf_snoc (l : List UInt8) (c : UInt8) : cellsOf l ++ [.int .u8 (c.toNat : Int)] = cellsOf (l ++ [c]) := by simp [cellsOf]

theorem size_of_list (l : List UInt8) : (⟨l.toArray⟩ : ByteArray).size = l.length := by simp [ByteArray.size]

theorem size_le_list (l : List UInt8) (h : l.length ≤ 1000000) : (⟨l.toArray⟩ : ByteArray).size ≤ maxLen := by rw [size_of_list]; unfold maxLen; omega

/-- A row that is owned: its bytes. -/
theorem bytes_of_owns {w : World} {base g n cap : Nat} {l : List UInt8} (h : w.ownsRow base 5 1 (.slice (some ⟨g, 0, none⟩) n cap) n (cellsOf l)) : Lib.Bytes w g 0 ⟨l.toArray⟩ ∧ l.length = n := by
  have hl := h.1
  simp [cellsOf] at hl
  refine ⟨fun i hi => ?_, hl⟩
  rw [size_of_list] at hi
  have := h.cells (g := g) rfl i (.int .u8 (l[i].toNat : Int)) (by simp [cellsOf, hi])
  have e : (⟨g, 0, none⟩ : Addr).add i = ⟨g, 0 + i, none⟩ := by unfold Addr.add; split <;> simp_all
  rw [e] at this
  exact this

theorem one_u8 (n : Int) : ∀ u ∈ [Value.int .u8 n], u.oneCell' = true := by intro u hu; simp at hu; subst hu; rfl

set_option maxHeartbeats 800000 in
theorem lawA (n z : Nat) (w : World) (hn : n ≤ 2147483647) (hz : z ≤ 65536) :
    Calls Try.prog 3 #[.int .i64 n, .int .i64 z] w fun e w' => e = .returned (.bool true) ∧ Below w.heap.size w w' := by
  obtain ⟨i0, hi, hz0, hz1, hz2⟩ := info_parts info5
  have hL := itoa_length n
  obtain ⟨D, hD⟩ : ∃ D, D = itoa n := ⟨_, rfl⟩
  rw [← hD] at hL
  have HD : Hid (D = itoa n) := hD
  go_enter Try.func3, Try.ntmps3
  go_wp2_with fail
  refine (itoa_any (n : Int) w (by omega)).mono ?_
  rw [Int.toNat_natCast, ← hD]
  clear hD
  rintro e w1 ⟨rfl, hb1⟩
  have hb1s := hb1.size
  have hsz : (⟨D.toArray⟩ : ByteArray).size = D.length := size_of_list D
  go_wp2_with (at_make; refine wpList_make_own _ rfl _ _ 23 rfl w1.heap.size 5 i0 (.int .u8 0) 1 Try.underlying23 hi hz0 hz1 _ _ _ (z + D.length) rfl rfl (by omega) ?b2 ?b3 (Nat.le_refl _) ?_)
  case b2 => rw [hz2]; omega
  case b3 => unfold maxLen; omega
  intro w2 hown2 hgrow2
  clear hsz
  have hb2 : Below w.heap.size w w2 := hb1.grown hgrow2 hb1s (fun k h => by cases h)
  clear hb1 hgrow2
  obtain ⟨G, HG⟩ : ∃ G, Hid (G = w1.heap.size) := ⟨_, rfl⟩
  rw [← HG.out] at hown2
  have hGB : w.heap.size ≤ G := by rw [HG.out]; exact hb1s
  rw [← HG.out]
  clear HG hb1s
  go_wp2
  go_loopw [6, 7] (fun out kv wr => ∃ k : Nat, k ≤ z ∧ kv = .int .i64 k ∧ out = .slice (some ⟨G, 0, none⟩) k (z + D.length) ∧
      wr.ownsRow G 5 1 (.slice (some ⟨G, 0, none⟩) k (z + D.length)) k (cellsOf (List.replicate k 48)) ∧ Below w.heap.size w wr)
    (fun _ kv _ => z - (intOf kv).toNat)
  case atStart => exact ⟨0, Nat.zero_le _, rfl, rfl, hown2, hb2⟩
  case round =>
    clear hown2 hb2
    obtain ⟨k, hk, rfl, rfl, hown, hb⟩ := hrel
    by_cases hlt : k < z
    · go_wp2_with (at_builtin; refine wpList_append_fits _ rfl _ _ 23 rfl G 5 i0 1 Try.underlying23 hi hz1 G k (z + D.length) _ rfl (hown.alloc _) ⟨wr.heap.size, 0, none⟩ 1 1 [.int .u8 48] rfl rfl (cell_one_new _ _ _) (one_u8 _) (by omega) ?_)
      intro w3 hown3 hgrow3
      have hb3 : Below w.heap.size w w3 := (hb.alloc hb.size _).grown hgrow3 (by have := hb.size; simp; omega) (fun k hk => by cases hk; exact hGB)
      rw [show cellsOf (List.replicate k 48) ++ [.int .u8 48] = cellsOf (List.replicate (k + 1) 48) from by rw [List.replicate_succ', ← cellsOf_snoc]; rfl] at hown3
      clear hgrow3 hown hb
      go_wp2
      go_roundw
      case rel => exact ⟨k + 1, by omega, by go_num, rfl, hown3, hb3⟩
      case measure => simp [intOf]; omega
    · obtain rfl : k = z := by omega
      clear hlt
      go_wp2
      go_loopw [6, 8] (fun out jv wq => ∃ j : Nat, j ≤ D.length ∧ jv = .int .i64 j ∧ out = .slice (some ⟨G, 0, none⟩) (k + j) (k + D.length) ∧
          wq.ownsRow G 5 1 (.slice (some ⟨G, 0, none⟩) (k + j) (k + D.length)) (k + j) (cellsOf (List.replicate k 48 ++ D.take j)) ∧ Below w.heap.size w wq)
        (fun _ jv _ => D.length - (intOf jv).toNat)
      case atStart => exact ⟨0, Nat.zero_le _, rfl, rfl, by simpa using hown, hb⟩
      case round =>
        clear hown hb
        obtain ⟨j, hj, rfl, rfl, hown, hb⟩ := hrel
        by_cases hlt : j < D.length
        · have hlt2 : j < (⟨D.toArray⟩ : ByteArray).size := by rw [size_of_list]; exact hlt
          go_wp2_with (at_builtin; refine wpList_append_fits _ rfl _ _ 23 rfl G 5 i0 1 Try.underlying23 hi hz1 G (k + j) (k + D.length) _ rfl (hown.alloc _) ⟨wr.heap.size, 0, none⟩ 1 1 [.int .u8 (D[j].toNat : Int)] rfl rfl (cell_one_new _ _ _) (one_u8 _) (by omega) ?_)
          intro w3 hown3 hgrow3
          have hb3 : Below w.heap.size w w3 := (hb.alloc hb.size _).grown hgrow3 (by have := hb.size; simp; omega) (fun k hk => by cases hk; exact hGB)
          rw [cellsOf_snoc, List.append_assoc, ← List.take_succ_eq_append_getElem hlt, Nat.add_assoc] at hown3
          clear hgrow3 hown hb
          go_wp2
          go_roundw
          case rel => exact ⟨j + 1, by omega, by go_num, rfl, hown3, hb3⟩
          case measure => simp [intOf]; omega
        · obtain rfl : j = D.length := by omega
          rw [List.take_length] at hown
          obtain ⟨hby, hlen⟩ := bytes_of_owns hown
          have hconv := Lib.run_convert_whole (P := Try.prog) wr 23 5 9 Try.underlying23 Try.underlying5 Try.underlying9 G 0 _ hby (k + D.length)
          rw [size_of_list, hlen] at hconv
          have had : allDig (List.replicate k 48 ++ D) = true := by rw [allDig_append, zeros_allDig, HD.out, itoa_allDig]; rfl
          have hv : dvV (List.replicate k 48 ++ D) = (n : Int) := by rw [dvV_yes had, val_zeros, HD.out, val_itoa n (by omega)]
          have hdv : Calls Try.prog 13 #[.string ⟨(List.replicate k 48 ++ D).toArray⟩] wr fun e w' => e = .returned (.tuple #[.int .i64 (n : Int), .bool true]) ∧ w' = wr := by
            have := ZZdigitsValue_any ⟨(List.replicate k 48 ++ D).toArray⟩ wr (size_le_list (List.replicate k 48 ++ D) (by omega))
            rw [had, hv] at this
            exact this
          generalize (⟨(List.replicate k 48 ++ D).toArray⟩ : ByteArray) = S at hdv hconv
          clear hv had hlt hby hlen hown
          go_wp2_with (go_at_call 13; refine hdv.mono ?_; rintro e w' ⟨rfl, rfl⟩)
          go_ret
          exact ⟨rfl, hb⟩

theorem walkA (a0 : Int) (a1 : Int) (w0 : (Lit.int .i64 a0).wf = true) (w1 : (Lit.int .i64 a1).wf = true) (w : World) :
    Calls Try.prog 3 #[.int .i64 a0, .int .i64 a1] w fun e w' => e = .returned (.bool true) ∧ Below w.heap.size w w' := by
  by_cases h1 : a0 < 0
  · go_enter Try.func3, Try.ntmps3
    go_wp2
    go_ret
    exact ⟨rfl, Below.refl _ _⟩
  by_cases h2 : 2147483647 < a0
  · go_enter Try.func3, Try.ntmps3
    go_wp2
    go_ret
    exact ⟨rfl, Below.refl _ _⟩
  by_cases h3 : a1 < 0
  · go_enter Try.func3, Try.ntmps3
    go_wp2
    go_ret
    exact ⟨rfl, Below.refl _ _⟩
  by_cases h4 : 65536 < a1
  · go_enter Try.func3, Try.ntmps3
    go_wp2
    go_ret
    exact ⟨rfl, Below.refl _ _⟩
  obtain ⟨n, rfl⟩ := Int.eq_ofNat_of_zero_le (show 0 ≤ a0 by omega)
  obtain ⟨z, rfl⟩ := Int.eq_ofNat_of_zero_le (show 0 ≤ a1 by omega)
  exact lawA n z w (by omega) (by omega)
end Go.Proofs.Qxb6001398a
