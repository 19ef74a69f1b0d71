import Derived.Test.Qxb6001559aRows
import Derived.Test.Qxb6001559aPlain
import Derived.WalkKit
import Derived.WalkSpells
import Derived.WalkLawsBesides
import Derived.Lib.SliceRun
import Derived.OpenShut
namespace Go.Proofs.Qxb6001559a
open Go.RowKit
open Plain

theorem hide {p : Prop} (h : p) : Hid p := h
theorem name_it {α : Type} (x : α) : ∃ y, Hid (y = x) := ⟨x, rfl⟩
theorem ret_int {k : IntKind} {a b : Int} (h : a = b) : Ending.returned (.int k a) = .returned (.int k b) := by rw [h]
theorem add_plain (b off i : Nat) : (⟨b, off, none⟩ : Addr).add i = ⟨b, off + i, none⟩ := by unfold Addr.add; split <;> simp_all
theorem info5 : (Try.prog.info? 5).map (fun i => (i.zero, i.size, i.bytes)) = some (some (.int .u8 0), 1, 1) := by kernel_rfl

/-- A slice of bytes: its elements. -/
def BR (w : World) (v : Value) (zs : List Int) : Prop :=
  (∀ z ∈ zs, 0 ≤ z ∧ z ≤ 255) ∧ ∃ a cap, v = .slice a zs.length cap ∧ (a = none → zs.length = 0 ∧ cap = 0) ∧ ∀ i, (h : i < zs.length) → ∃ b off, a = some ⟨b, off, none⟩ ∧ w.cell? ⟨b, off + i, none⟩ = some (.int .u8 zs[i])

theorem BR.below {w w' : World} {v : Value} {zs : List Int} (h : BR w v zs) (hb : Below w.heap.size w w') : BR w' v zs := by
  obtain ⟨h1, a, cap, h2, h3, h4⟩ := h
  refine ⟨h1, a, cap, h2, h3, fun i hi => ?_⟩
  obtain ⟨b, off, e, hc⟩ := h4 i hi
  exact ⟨b, off, e, (hb.cell (p := ⟨b, off + i, none⟩) (World.block_lt_of_cell? w _ hc)).trans hc⟩

/-- cloneBytes' loop: k bytes stand at block G. -/
structure CL (w : World) (zs : List Int) (G k : Nat) (wr : World) : Prop where
  below : Below w.heap.size w wr
  hG : w.heap.size ≤ G
  size : G < wr.heap.size
  held : ∀ o, o < zs.length → ∃ v, wr.cell? ⟨G, o, none⟩ = some v
  frozen : ∀ o, wr.frozen? ⟨G, o, none⟩ = false
  done : ∀ i, (h : i < zs.length) → i < k → wr.cell? ⟨G, i, none⟩ = some (.int .u8 zs[i])

theorem CL.put {w : World} {zs : List Int} {G k : Nat} {wr : World} (h : CL w zs G k wr) (hk : k < zs.length) : CL w zs G (k + 1) (wr.setCell ⟨G, k, none⟩ (.int .u8 zs[k])) := by
  refine ⟨h.below.setCell (p := ⟨G, k, none⟩) h.hG _, h.hG, by simpa [World.setCell] using h.size, ?_, ?_, ?_⟩
  · intro o ho; obtain ⟨v, hv⟩ := h.held o ho; exact cell?_setCell_some hv
  · intro o; rw [World.frozen?_setCell]; exact h.frozen o
  · intro i hi hik
    by_cases e : k = i
    · subst e
      obtain ⟨v, hv⟩ := h.held k hk
      exact World.cell?_setCell_same _ _ _ hv
    · rw [World.cell?_setCell_other _ _ _ _ (by intro g; cases g; exact e rfl)]
      exact h.done i hi (by omega)

set_option maxHeartbeats 400000 in
theorem clone_any (v : Value) (zs : List Int) (w : World) (hv : BR w v zs) (hl : zs.length ≤ 1048576) :
    Calls Try.prog 6 #[v] w fun e w' => ∃ v', e = .returned v' ∧ BR w' v' zs ∧ Below w.heap.size w w' := by
  obtain ⟨hb, a, cap, rfl, hnil, hcell⟩ := hv
  have HB := hide hb
  have HC := hide hcell
  have qn := fun (w : World) (a : Option Addr) (n c : Nat) => Lib.run_eql_slice_nil (P := Try.prog) w 22 5 a n c 0 0 Try.underlying22
  clear hb hcell
  cases a with
  | none =>
    have h0 := (hnil rfl).1
    have HZ := hide h0
    clear h0 hnil
    go_enter Try.func6, Try.ntmps6
    go_wp2
    go_ret
    exact ⟨.slice none 0 0, rfl, ⟨HB.out, none, 0, by rw [HZ.out], fun _ => ⟨HZ.out, rfl⟩, fun i hi => by have := HZ.out; omega⟩, Below.refl _ _⟩
  | some x =>
    clear hnil
    obtain ⟨i0, hi, hz0, hz1, hz2⟩ := info_parts info5
    obtain ⟨L, Ln⟩ := name_it zs.length
    rw [← Ln.out] at hl ⊢
    go_enter Try.func6, Try.ntmps6
    go_wp2_with (at_make; refine wpList_make_full _ rfl _ _ 22 rfl w.heap.size 5 i0 (.int .u8 0) 1 Try.underlying22 hi hz0 hz1 _ _ _ _ L rfl rfl rfl rfl ?b2 ?b3 (Nat.le_refl _) ?_)
    case b2 => first | (rw [hz2]; omega) | omega
    case b3 => unfold maxLen; omega
    intro w1 hown hgrow
    have hcl : CL w zs w.heap.size 0 w1 := by
      have hb : Below w.heap.size w w1 := (Below.refl _ _).grown hgrow (Nat.le_refl _) (fun k h => by cases h)
      refine ⟨hb, Nat.le_refl _, (hown.lt w.heap.size rfl).2, ?_, fun o => hown.frozenAt o, fun i _ h => by omega⟩
      intro o ho
      rw [← Ln.out] at ho
      rw [hown.cellAt o (by omega)]
      exact ⟨_, List.getElem?_eq_getElem (by simp [madeCells]; exact ho)⟩
    clear hown hgrow hi hz0 hz1 hz2
    go_wp2_with fail
    go_loopw [4] (fun iv wr => ∃ k : Nat, k ≤ L ∧ iv = .int .i64 (k : Int) ∧ CL w zs w.heap.size k wr) (fun iv _ => L - (intOf iv).toNat)
    case atStart => exact ⟨0, Nat.zero_le _, rfl, hcl⟩
    case round =>
      clear hcl
      obtain ⟨k, hk, rfl, hcl⟩ := hrel
      by_cases hlt : k < L
      · have hlt' : k < zs.length := by rw [← Ln.out]; exact hlt
        obtain ⟨b, off, e, hc0⟩ := HC.out k hlt'
        injection e with e
        subst e
        have hc := (hcl.below.cell (p := ⟨b, off + k, none⟩) (World.block_lt_of_cell? w _ hc0)).trans hc0
        obtain ⟨u, hu⟩ := hcl.held k hlt'
        have hf := hcl.frozen k
        have HP := hide (hcl.put hlt')
        obtain ⟨z, Hz⟩ := name_it zs[k]
        rw [← Hz.out] at hc HP
        clear hc0
        go_wp2_with fail
        go_roundw
        case rel => exact ⟨k + 1, by omega, by go_num, HP.out⟩
        case measure => simp [intOf]; omega
      · go_wp2_with fail
        go_ret
        refine ⟨_, rfl, ⟨HB.out, some ⟨w.heap.size, 0, none⟩, L, by rw [← Ln.out]; rfl, by simp, fun i hi => ⟨w.heap.size, 0, rfl, ?_⟩⟩, hcl.below⟩
        rw [Nat.zero_add]
        exact hcl.done i hi (by rw [Ln.out] at hlt; omega)

/-- It hands back a bool; where that is true, P. -/
def RetB (e : Ending) (P : Prop) : Prop := ∃ b, e = .returned (.bool b) ∧ (b = true → P)

theorem zz_any (a0 a2 : Option Addr) (n0 c0 n2 c2 : Nat) (s : ByteArray) (esc : Bool) (w : World) (h0 : n0 ≤ 9223372036854775807) (h1 : s.size ≤ 9223372036854775807) (h2 : n2 ≤ 9223372036854775807) :
    Calls Try.prog 5 #[.slice a0 n0 c0, .string s, .slice a2 n2 c2, .bool esc] w fun e w' => RetB e (n0 + s.size + n2 ≤ 1048576) ∧ w' = w := by
  by_cases g0 : 1048576 < n0
  · go_enter Try.func5, Try.ntmps5
    go_wp2
    go_ret
    exact ⟨⟨false, rfl, fun h => by cases h⟩, rfl⟩
  by_cases g1 : 1048576 < s.size
  · go_enter Try.func5, Try.ntmps5
    go_wp2
    go_ret
    exact ⟨⟨false, rfl, fun h => by cases h⟩, rfl⟩
  by_cases g2 : 1048576 < n0 + s.size
  · go_enter Try.func5, Try.ntmps5
    go_wp2
    go_ret
    exact ⟨⟨false, rfl, fun h => by cases h⟩, rfl⟩
  by_cases g3 : 1048576 < n2
  · go_enter Try.func5, Try.ntmps5
    go_wp2
    go_ret
    exact ⟨⟨false, rfl, fun h => by cases h⟩, rfl⟩
  by_cases g4 : 1048576 < n0 + s.size + n2
  · go_enter Try.func5, Try.ntmps5
    go_wp2
    go_ret
    exact ⟨⟨false, rfl, fun h => by cases h⟩, rfl⟩
  · go_enter Try.func5, Try.ntmps5
    go_wp2
    go_ret
    exact ⟨⟨true, rfl, fun _ => by omega⟩, rfl⟩

set_option maxHeartbeats 400000 in
theorem stringEnd_any (d : List Int) (g cap i r : Nat) (w : World) (hd : d.length ≤ 2000000) (hc : ∀ j, (h : j < d.length) → w.cell? ⟨g, j, none⟩ = some (.int .u8 d[j])) (hi : i ≤ 2000000) (hr : se (d.drop (i + 1)) (i + 1) = some r) :
    Calls Try.prog 12 #[.slice (some ⟨g, 0, none⟩) d.length cap, .int .i64 (i : Int)] w fun e w' => e = .returned (.int .i64 (r : Int)) ∧ w' = w := by
  have HC := hide hc
  have HR := hide hr
  clear hc hr
  go_enter Try.func12, Try.ntmps12
  go_wp2_with fail
  go_loop [1] (fun iv => ∃ k : Nat, iv = .int .i64 (k : Int) ∧ k ≤ 3000000 ∧ Hid (se (d.drop k) k = some r)) (fun iv => d.length - (intOf iv).toNat)
  case atStart => exact ⟨i + 1, by go_num, by omega, HR⟩
  case round =>
    obtain ⟨k, rfl, hk, HS⟩ := hrel
    have hlt : k < d.length := se_lt HS.out
    have HST := hide (se_step hlt HS.out)
    have hck := HC.out k hlt
    obtain ⟨c, Hc⟩ := name_it d[k]
    rw [← Hc.out] at hck HST
    by_cases h1 : c = 92
    · have g1 : (c == 92) = true := by rw [h1]; rfl
      have HS' := hide (HST.out.1 h1)
      clear HST HS h1
      go_wp2_with fail
      go_round
      case rel => exact ⟨k + 2, by go_num, by omega, HS'⟩
      case measure => simp [intOf]; omega
    · have g1 : (c == 92) = false := by rw [beq_eq_false_iff_ne]; exact h1
      by_cases h2 : c = 34
      · have g2 : (c == 34) = true := by rw [h2]; rfl
        have HS' := hide (HST.out.2.1 h2)
        clear HST HS h1 h2
        go_wp2_with fail
        go_ret
        exact ⟨ret_int (by rw [HS'.out]; rfl), rfl⟩
      · have g2 : (c == 34) = false := by rw [beq_eq_false_iff_ne]; exact h2
        have HS' := hide (HST.out.2.2 h1 h2)
        clear HST HS h1 h2
        go_wp2_with fail
        go_round
        case rel => exact ⟨k + 1, by go_num, by omega, HS'⟩
        case measure => simp [intOf]; omega

theorem zzEnd_any (d : List Int) (g cap i r : Nat) (w : World) (hd : d.length ≤ 2000000) (hc : ∀ j, (h : j < d.length) → w.cell? ⟨g, j, none⟩ = some (.int .u8 d[j])) (hi : i ≤ 2000000) (hr : se (d.drop (i + 1)) (i + 1) = some r) :
    Calls Try.prog 8 #[.slice (some ⟨g, 0, none⟩) d.length cap, .int .i64 (i : Int)] w fun e w' => e = .returned (.int .i64 (r : Int)) ∧ w' = w := by
  have H := hide (stringEnd_any d g cap i r w hd hc hi hr)
  clear hc hr
  go_enter Try.func8, Try.ntmps8
  go_wp2_with fail
  refine Calls.mono H.out ?_
  rintro e w1 ⟨rfl, rfl⟩
  go_wp2_with fail
  go_ret
  exact ⟨rfl, rfl⟩

theorem hexDigit_any (v : Int) (w : World) (h0 : 0 ≤ v) (h1 : v < 16) : Calls Try.prog 11 #[.int .u8 v] w fun e w' => e = .returned (.int .u8 (hexD v)) ∧ w' = w := by
  by_cases g : v < 10
  · have HE : Hid (48 + v = hexD v) := by unfold Hid hexD; rw [if_pos g]
    go_enter Try.func11, Try.ntmps11
    go_wp2
    go_ret
    exact ⟨ret_int HE.out, rfl⟩
  · have HE : Hid (97 + v - 10 = hexD v) := by unfold Hid hexD; rw [if_neg g]
    go_enter Try.func11, Try.ntmps11
    go_wp2
    go_ret
    exact ⟨ret_int HE.out, rfl⟩
end Go.Proofs.Qxb6001559a
