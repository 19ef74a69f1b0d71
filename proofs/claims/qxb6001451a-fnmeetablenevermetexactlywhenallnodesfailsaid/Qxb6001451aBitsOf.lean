import Derived.Test.Qxb6001451aBits
import Derived.Deep.RegionHeld3
namespace Go.Proofs.Qxb6001451a
open Go.RowKit

/-- The words of a set that the call itself has made: at block b, from its head on. -/
structure WAt (w : World) (b : Nat) (ws : List Nat) : Prop where
  lt : ∀ x ∈ ws, x < 18446744073709551616
  len : ws.length ≤ 2000
  cell : ∀ i, (h : i < ws.length) → w.cell? ⟨b, i, none⟩ = some (.int .u64 (ws[i] : Int))
  frozen : ∀ i, i < ws.length → w.frozen? ⟨b, i, none⟩ = false

theorem WAt.words {w : World} {b : Nat} {ws : List Nat} {n : Nat} (h : WAt w b ws) (hn : ws.length = n) : Words w (.slice (some ⟨b, 0, none⟩) n n) ws :=
  ⟨h.lt, h.len, b, 0, n, by rw [hn], fun i hi => by rw [Nat.zero_add]; exact h.cell i hi⟩

theorem WAt.below {w w' : World} {b : Nat} {ws : List Nat} (h : WAt w b ws) (hb : Below w.heap.size w w') (hlt : b < w.heap.size) : WAt w' b ws :=
  ⟨h.lt, h.len, fun i hi => (hb.cell (p := ⟨b, i, none⟩) hlt).trans (h.cell i hi), fun i hi => (hb.frozen (p := ⟨b, i, none⟩) hlt).trans (h.frozen i hi)⟩

theorem WAt.set {w : World} {b : Nat} {ws : List Nat} (h : WAt w b ws) (j x : Nat) (hj : j < ws.length) (hx : x < 18446744073709551616) : WAt (w.setCell ⟨b, j, none⟩ (.int .u64 (x : Int))) b (ws.set j x) := by
  refine ⟨?_, by rw [List.length_set]; exact h.len, ?_, ?_⟩
  · intro y hy
    rcases List.mem_or_eq_of_mem_set hy with e | e
    · exact h.lt y e
    · rw [e]; exact hx
  · intro i hi
    rw [List.length_set] at hi
    rw [List.getElem_set]
    by_cases e : j = i
    · subst e
      rw [World.cell?_setCell_same _ _ _ (h.cell j hj)]; simp
    · rw [World.cell?_setCell_other _ _ _ _ (by simp), if_neg e]
      exact h.cell i hi
  · intro i hi
    rw [List.length_set] at hi
    rw [World.frozen?_setCell]; exact h.frozen i hi

theorem WAt.drew {w : World} {b : Nat} {ws : List Nat} (h : WAt w b ws) : WAt w.drew b ws := ⟨h.lt, h.len, h.cell, h.frozen⟩

theorem or_lt (x k : Nat) (hx : x < 18446744073709551616) (hk : k < 64) : x ||| 2 ^ k < 18446744073709551616 := by
  have h := pow_lt64 k hk
  exact Nat.or_lt_two_pow (n := 64) hx h

theorem or_bit (x z : Nat) (hx : x < 18446744073709551616) : bits .or .u64 (x : Int) ((2 : Int) ^ (z % 64)) = ((x ||| 2 ^ (z % 64) : Nat) : Int) := by
  have h := pow_lt64 (z % 64) (Nat.mod_lt _ (by omega))
  have e : ((2 : Int) ^ (z % 64)) = ((2 ^ (z % 64) : Nat) : Int) := by simp
  rw [e, u64_or_nat x _ hx h]

/-- 's[z/64] |= bit(z)'. -/
theorem WAt.or_at {w : World} {b : Nat} {ws : List Nat} (h : WAt w b ws) {j x : Nat} (hj : j < ws.length) (hx : x < 18446744073709551616) (z : Nat) (v : Value) (hv : v = .int .u64 (bits .or .u64 (x : Int) ((2 : Int) ^ (z % 64)))) :
    WAt (w.setCell ⟨b, j, none⟩ v).drew b (ws.set j (x ||| 2 ^ (z % 64))) := by
  rw [hv, or_bit x z hx]
  exact (h.set j _ hj (or_lt x _ hx (Nat.mod_lt _ (by omega)))).drew

theorem info43 : (Try.prog.info? 43).map (fun i => (i.zero, i.size, i.bytes)) = some (some (.int .u64 0), 1, 8) := by kernel_rfl

theorem WAt.made {w : World} {base b n : Nat} (hn : n ≤ 2000) (h : w.ownsRow base 43 1 (.slice (some ⟨b, 0, none⟩) n n) n (madeCells #[.int .u64 0] n).toList) : WAt w b (List.replicate n 0) := by
  refine ⟨?_, by simpa using hn, ?_, ?_⟩
  · intro x hx; rw [List.eq_of_mem_replicate hx]; omega
  · intro i hi
    rw [List.length_replicate] at hi
    have := h.cells (g := b) rfl i (.int .u64 0) (by rw [toList_madeCells_one]; simp [hi])
    rw [add_plain, Nat.zero_add] at this
    rw [this]; simp
  · intro i hi
    rcases h.2 with ⟨h1, _⟩ | ⟨g, cap, cur, h1, _, hg, _⟩
    · cases h1
    · simp only [Value.slice.injEq, Option.some.injEq, Addr.mk.injEq] at h1
      obtain ⟨⟨rfl, _, _⟩, _, _⟩ := h1
      simp [World.frozen?, hg]

set_option maxHeartbeats 800000 in
theorem bitsOf_any (v : Value) (zs : List Int) (n : Nat) (w : World) (hv : Ints w v zs) (hn : n ≤ 2000) (hz : ∀ z ∈ zs, IdOk z ∧ z / 64 < (n : Int)) :
    Calls Try.prog 16 #[v, .int .i64 (n : Int)] w fun e w' => ∃ ws : List Nat, e = .returned (.slice (some ⟨w.heap.size, 0, none⟩) n n) ∧ ws.length = n ∧ WAt w' w.heap.size ws ∧ w.heap.size < w'.heap.size ∧ Below w.heap.size w w' := by
  obtain ⟨i0, hi, hz0, hz1, hz2⟩ := info_parts info43
  obtain ⟨hwf, a, cap, rfl, hlc, hcm, hnil, hcell⟩ := hv
  have HC := hide hcell
  have HZ := hide hz
  have hlm : zs.length ≤ 9223372036854775807 := by unfold maxLen at hcm; omega
  clear hcell hwf hcm hnil hz
  go_enter Try.func16, Try.ntmps16
  go_wp2_with (at_make; refine wpList_make_full _ rfl _ _ 31 rfl w.heap.size 43 i0 (.int .u64 0) 1 Try.underlying31 hi hz0 hz1 _ _ _ _ n rfl rfl rfl rfl ?b2 ?b3 (Nat.le_refl _) ?_)
  case b2 => rw [hz2]; omega
  case b3 => unfold maxLen; omega
  intro w0 hown0 hgrow0
  have hwat := WAt.made hn hown0
  have hbel : Below w.heap.size w w0 := (Below.refl _ _).grown hgrow0 (Nat.le_refl _) (fun k h => by cases h)
  have hsz0 : w.heap.size < w0.heap.size := (hown0.lt w.heap.size rfl).2
  clear hown0 hgrow0 hz0 hz1 hz2 hi
  go_wp2
  go_loopw [12] (fun iv wr => ∃ (k : Nat) (ws : List Nat), k ≤ zs.length ∧ iv = .int .i64 (k : Int) ∧ ws.length = n ∧ WAt wr w.heap.size ws ∧ w.heap.size < wr.heap.size ∧ Below w.heap.size w wr) (fun iv _ => zs.length - (intOf iv).toNat)
  case atStart => exact ⟨0, List.replicate n 0, Nat.zero_le _, rfl, by simp, hwat, hsz0, hbel⟩
  case round =>
    clear hwat hsz0 hbel
    obtain ⟨k, ws, hk, rfl, hwl, hwat, hsz, hbel⟩ := hrel
    have HWL := hide hwl
    by_cases hlt : k < zs.length
    · obtain ⟨b, off, rfl, hc0⟩ := HC.out k hlt
      have hc := (hbel.cell (p := ⟨b, off + k, none⟩) (World.block_lt_of_cell? w _ hc0)).trans hc0
      clear hc0
      obtain ⟨⟨hz1, hz2⟩, hz3⟩ := HZ.out _ (List.getElem_mem hlt)
      obtain ⟨z, Hz⟩ : ∃ z : Nat, Hid (zs[k] = (z : Int)) := ⟨zs[k].toNat, by show _ = _; omega⟩
      rw [Hz.out] at hc hz1 hz2 hz3
      have hzn : z / 64 < n := by omega
      have hzw : z / 64 < ws.length := by omega
      have hx := hwat.lt _ (List.getElem_mem hzw)
      have hcx := hwat.cell (z / 64) hzw
      have hfx := hwat.frozen (z / 64) hzw
      obtain ⟨x, Hx⟩ := name_it ws[z / 64]
      rw [← Hx.out] at hx hcx
      have hz65 : z < 65536 := by omega
      have hzi : (z : Int) / 64 < (n : Int) := by omega
      have hzi0 : 0 ≤ (z : Int) / 64 := by omega
      have hq2 : (z : Int).tdiv 64 = (z : Int) / 64 := by rw [Int.tdiv_eq_ediv_of_nonneg (by omega)]
      have hq1 : IntKind.i64.wrap ((z : Int) / 64) = (z : Int) / 64 := by rw [IntKind.wrap_i64]; omega
      have hq3 : ((z : Int) / 64).toNat = z / 64 := by omega
      clear hwl hz1 hz2 hz3
      go_wp2
      go_region_with (go_at_call 20; refine (bit_any _ _ hz65).mono ?_; rintro e w' ⟨rfl, rfl⟩)
      all_goals
        go_wp2
        go_roundw
        case rel => exact ⟨k + 1, ws.set (z / 64) (x ||| 2 ^ (z % 64)), by omega, by go_num, by rw [List.length_set]; exact HWL.out, WAt.or_at hwat hzw hx z _ rfl, by simpa [World.setCell] using hsz, (hbel.setCell (Nat.le_refl _) _).drew⟩
        case measure => simp [intOf]; omega
    · go_wp2
      go_ret
      exact ⟨ws, rfl, HWL.out, hwat, hsz, hbel⟩
end Go.Proofs.Qxb6001451a
