import Derived.Test.Qxb6001559aSmall
import Derived.OwnWalk
import Derived.Maps.AppendAt
import Derived.Laws.BitsAllLaws
namespace Go.Proofs.Qxb6001559a
open Go.RowKit
open Plain

theorem take_snoc (s : ByteArray) (k : Nat) (h : k < s.size) : s.data.toList.take (k + 1) = s.data.toList.take k ++ [s[k]] := by
  rw [List.take_succ_eq_append_getElem (by simpa using h)]; rfl

/-- A string's bytes as numbers. -/
def ints (s : ByteArray) : List Int := s.data.toList.map fun c => (c.toNat : Int)
theorem ints_length (s : ByteArray) : (ints s).length = s.size := by unfold ints; rw [List.length_map]; rfl
theorem ints_take (s : ByteArray) (k : Nat) (h : k < s.size) : (ints s).take (k + 1) = (ints s).take k ++ [(s[k].toNat : Int)] := by
  unfold ints
  rw [← List.map_take, ← List.map_take, take_snoc s k h, List.map_append]; rfl

/-- Numbers as the cells of a row of bytes. -/
def cl (l : List Int) : List Value := l.map fun c => .int .u8 c
theorem cl_append (l m : List Int) : cl (l ++ m) = cl l ++ cl m := by simp [cl]
theorem cl_one (l : List Int) : ∀ u ∈ cl l, u.oneCell' = true := by
  intro u hu; simp [cl] at hu; obtain ⟨c, _, rfl⟩ := hu; rfl

theorem cells_new (w : World) (xs : Array Value) (t : TypeId) : ∀ j u, xs.toList[j]? = some u → (w.alloc (.cells xs t)).cell? ((⟨w.heap.size, 0, none⟩ : Addr).add j) = some u := by
  intro j u hu
  rw [add_plain]
  simp
  simpa using hu

/-- encodeString's loop: the bytes so far. -/
structure EN (w : World) (xs : List Value) (base G n cap : Nat) (esc : Bool) (s : ByteArray) (k m : Nat) (wr : World) : Prop where
  own : wr.ownsRow base 5 1 (.slice (some ⟨G, 0, none⟩) m cap) m (xs ++ cl (34 :: body esc ((ints s).take k)))
  grown : w.grownBy wr (some G)
  len : m ≤ n + 1 + 6 * k

theorem EN.step {w : World} {xs : List Value} {base G n cap : Nat} {esc : Bool} {s : ByteArray} {k m : Nat} {wr w3 : World} {o : Obj} (h : EN w xs base G n cap esc s k m wr) (hk : k < s.size) (u : List Int) (hu : unit esc (s[k].toNat : Int) = u)
    (h3 : w3.ownsRow base 5 1 (.slice (some ⟨G, 0, none⟩) (m + u.length) cap) (m + u.length) (xs ++ (cl (34 :: body esc ((ints s).take k)) ++ cl u))) (hg : (wr.alloc o).grownBy w3 (some G)) : EN w xs base G n cap esc s (k + 1) (m + u.length) w3 := by
  refine ⟨?_, (h.grown.trans (World.grownBy_alloc wr o (some G))).trans hg, ?_⟩
  · rw [ints_take s k hk, body_snoc, ← List.cons_append, cl_append, hu]; exact h3
  · have h1 := h.len
    have h2 := unit_len esc (s[k].toNat : Int)
    rw [hu] at h2
    omega

set_option maxRecDepth 100000 in
set_option maxHeartbeats 1000000 in
theorem encode_any (base G n cap : Nat) (xs : List Value) (s : ByteArray) (esc : Bool) (w : World) (hown : w.ownsRow base 5 1 (.slice (some ⟨G, 0, none⟩) n cap) n xs) (hcap : n + 6 * s.size + 2 ≤ cap) (hcap2 : cap ≤ 1048576) :
    Calls Try.prog 7 #[.slice (some ⟨G, 0, none⟩) n cap, .string s, .bool esc] w fun e w' => ∃ m, e = .returned (.slice (some ⟨G, 0, none⟩) m cap) ∧ m ≤ n + 2 + 6 * s.size ∧ w'.ownsRow base 5 1 (.slice (some ⟨G, 0, none⟩) m cap) m (xs ++ cl (34 :: body esc (ints s) ++ [34])) ∧ w.grownBy w' (some G) := by
  obtain ⟨i0, hi, hz0, hz1, hz2⟩ := info_parts info5
  go_enter Try.func7, Try.ntmps7
  go_wp2_with (at_builtin; refine wpList_append_fits _ rfl _ _ 22 rfl base 5 i0 1 Try.underlying22 hi hz1 G n cap _ rfl (hown.alloc _) ⟨w.heap.size, 0, none⟩ 1 1 (cl [34]) rfl rfl (cells_new _ _ _) (cl_one _) (by omega) ?_)
  intro w1 hown1 hgrow1
  have hen : EN w xs base G n cap esc s 0 (n + 1) w1 := ⟨hown1, (World.grownBy_alloc w _ (some G)).trans hgrow1, by omega⟩
  clear hown hown1 hgrow1
  go_wp2_with fail
  go_loopw [0, 7, 8] (fun out kv cv wr => ∃ k m : Nat, k ≤ s.size ∧ kv = .int .i64 (k : Int) ∧ out = .slice (some ⟨G, 0, none⟩) m cap ∧ EN w xs base G n cap esc s k m wr) (fun _ kv _ _ => s.size - (intOf kv).toNat)
  case atStart => exact ⟨0, n + 1, Nat.zero_le _, rfl, rfl, hen⟩
  case round =>
    clear hen
    obtain ⟨k, m, hk, rfl, rfl, hen⟩ := hrel
    have hlen := hen.len
    by_cases hlt : k < s.size
    · by_cases h34 : (s[k].toNat : Int) = 34
      · have HU : Hid (unit esc (s[k].toNat : Int) = [92, 34]) := by unfold Hid unit; rw [if_pos (Or.inl h34), h34]
        have b34 : ((s[k].toNat : Int) == 34) = true := by rw [beq_iff_eq]; exact h34
        go_wp2_with (at_builtin; refine wpList_append_fits _ rfl _ _ 22 rfl base 5 i0 1 Try.underlying22 hi hz1 G m cap _ rfl (hen.own.alloc _) ⟨wr.heap.size, 0, none⟩ 2 2 (cl [92, 34]) rfl rfl (cells_new _ _ _) (cl_one _) (by omega) ?_)
        intro w3 hown3 hgrow3
        have hst : Hid (EN w xs base G n cap esc s (k + 1) (m + 2) w3) := hen.step hlt [92, 34] HU.out hown3 hgrow3
        clear hown3 hgrow3 hen HU
        go_wp2_with fail
        go_roundw
        case rel => exact ⟨k + 1, m + 2, by omega, by go_num, rfl, hst.out⟩
        case measure => simp [intOf]; omega
      have b34 : ((s[k].toNat : Int) == 34) = false := by rw [beq_eq_false_iff_ne]; exact h34
      by_cases h92 : (s[k].toNat : Int) = 92
      · have HU : Hid (unit esc (s[k].toNat : Int) = [92, 92]) := by unfold Hid unit; rw [if_pos (Or.inr h92), h92]
        have b92 : ((s[k].toNat : Int) == 92) = true := by rw [beq_iff_eq]; exact h92
        go_wp2_with (at_builtin; refine wpList_append_fits _ rfl _ _ 22 rfl base 5 i0 1 Try.underlying22 hi hz1 G m cap _ rfl (hen.own.alloc _) ⟨wr.heap.size, 0, none⟩ 2 2 (cl [92, 92]) rfl rfl (cells_new _ _ _) (cl_one _) (by omega) ?_)
        intro w3 hown3 hgrow3
        have hst : Hid (EN w xs base G n cap esc s (k + 1) (m + 2) w3) := hen.step hlt [92, 92] HU.out hown3 hgrow3
        clear hown3 hgrow3 hen HU
        go_wp2_with fail
        go_roundw
        case rel => exact ⟨k + 1, m + 2, by omega, by go_num, rfl, hst.out⟩
        case measure => simp [intOf]; omega
      have b92 : ((s[k].toNat : Int) == 92) = false := by rw [beq_eq_false_iff_ne]; exact h92
      by_cases h47 : (s[k].toNat : Int) = 47 ∧ esc = true
      · obtain ⟨h47a, rfl⟩ := h47
        have HU : Hid (unit true (s[k].toNat : Int) = [92, 47]) := by unfold Hid unit; rw [h47a]; rfl
        have b47 : ((s[k].toNat : Int) == 47) = true := by rw [beq_iff_eq]; exact h47a
        go_wp2_with (at_builtin; refine wpList_append_fits _ rfl _ _ 22 rfl base 5 i0 1 Try.underlying22 hi hz1 G m cap _ rfl (hen.own.alloc _) ⟨wr.heap.size, 0, none⟩ 2 2 (cl [92, 47]) rfl rfl (cells_new _ _ _) (cl_one _) (by omega) ?_)
        intro w3 hown3 hgrow3
        have hst : Hid (EN w xs base G n cap true s (k + 1) (m + 2) w3) := hen.step hlt [92, 47] HU.out hown3 hgrow3
        clear hown3 hgrow3 hen HU
        go_wp2_with fail
        go_roundw
        case rel => exact ⟨k + 1, m + 2, by omega, by go_num, rfl, hst.out⟩
        case measure => simp [intOf]; omega
      by_cases h10 : (s[k].toNat : Int) = 10
      · have HU : Hid (unit esc (s[k].toNat : Int) = [92, 110]) := by unfold Hid unit; rw [if_neg (not_or.mpr ⟨h34, h92⟩), if_neg h47, if_pos h10]
        have b10 : ((s[k].toNat : Int) == 10) = true := by rw [beq_iff_eq]; exact h10
        have b47 : ((s[k].toNat : Int) == 47) = false := by rw [h10]; rfl
        go_wp2_with (at_builtin; refine wpList_append_fits _ rfl _ _ 22 rfl base 5 i0 1 Try.underlying22 hi hz1 G m cap _ rfl (hen.own.alloc _) ⟨wr.heap.size, 0, none⟩ 2 2 (cl [92, 110]) rfl rfl (cells_new _ _ _) (cl_one _) (by omega) ?_)
        intro w3 hown3 hgrow3
        have hst : Hid (EN w xs base G n cap esc s (k + 1) (m + 2) w3) := hen.step hlt [92, 110] HU.out hown3 hgrow3
        clear hown3 hgrow3 hen HU
        go_wp2_with fail
        go_roundw
        case rel => exact ⟨k + 1, m + 2, by omega, by go_num, rfl, hst.out⟩
        case measure => simp [intOf]; omega
      have b10 : ((s[k].toNat : Int) == 10) = false := by rw [beq_eq_false_iff_ne]; exact h10
      by_cases h13 : (s[k].toNat : Int) = 13
      · have HU : Hid (unit esc (s[k].toNat : Int) = [92, 114]) := by unfold Hid unit; rw [if_neg (not_or.mpr ⟨h34, h92⟩), if_neg h47, if_neg h10, if_pos h13]
        have b13 : ((s[k].toNat : Int) == 13) = true := by rw [beq_iff_eq]; exact h13
        have b47 : ((s[k].toNat : Int) == 47) = false := by rw [h13]; rfl
        go_wp2_with (at_builtin; refine wpList_append_fits _ rfl _ _ 22 rfl base 5 i0 1 Try.underlying22 hi hz1 G m cap _ rfl (hen.own.alloc _) ⟨wr.heap.size, 0, none⟩ 2 2 (cl [92, 114]) rfl rfl (cells_new _ _ _) (cl_one _) (by omega) ?_)
        intro w3 hown3 hgrow3
        have hst : Hid (EN w xs base G n cap esc s (k + 1) (m + 2) w3) := hen.step hlt [92, 114] HU.out hown3 hgrow3
        clear hown3 hgrow3 hen HU
        go_wp2_with fail
        go_roundw
        case rel => exact ⟨k + 1, m + 2, by omega, by go_num, rfl, hst.out⟩
        case measure => simp [intOf]; omega
      have b13 : ((s[k].toNat : Int) == 13) = false := by rw [beq_eq_false_iff_ne]; exact h13
      by_cases h9 : (s[k].toNat : Int) = 9
      · have HU : Hid (unit esc (s[k].toNat : Int) = [92, 116]) := by unfold Hid unit; rw [if_neg (not_or.mpr ⟨h34, h92⟩), if_neg h47, if_neg h10, if_neg h13, if_pos h9]
        have b9 : ((s[k].toNat : Int) == 9) = true := by rw [beq_iff_eq]; exact h9
        have b47 : ((s[k].toNat : Int) == 47) = false := by rw [h9]; rfl
        go_wp2_with (at_builtin; refine wpList_append_fits _ rfl _ _ 22 rfl base 5 i0 1 Try.underlying22 hi hz1 G m cap _ rfl (hen.own.alloc _) ⟨wr.heap.size, 0, none⟩ 2 2 (cl [92, 116]) rfl rfl (cells_new _ _ _) (cl_one _) (by omega) ?_)
        intro w3 hown3 hgrow3
        have hst : Hid (EN w xs base G n cap esc s (k + 1) (m + 2) w3) := hen.step hlt [92, 116] HU.out hown3 hgrow3
        clear hown3 hgrow3 hen HU
        go_wp2_with fail
        go_roundw
        case rel => exact ⟨k + 1, m + 2, by omega, by go_num, rfl, hst.out⟩
        case measure => simp [intOf]; omega
      have b9 : ((s[k].toNat : Int) == 9) = false := by rw [beq_eq_false_iff_ne]; exact h9
      by_cases h8 : (s[k].toNat : Int) = 8
      · have HU : Hid (unit esc (s[k].toNat : Int) = [92, 98]) := by unfold Hid unit; rw [if_neg (not_or.mpr ⟨h34, h92⟩), if_neg h47, if_neg h10, if_neg h13, if_neg h9, if_pos h8]
        have b8 : ((s[k].toNat : Int) == 8) = true := by rw [beq_iff_eq]; exact h8
        have b47 : ((s[k].toNat : Int) == 47) = false := by rw [h8]; rfl
        go_wp2_with (at_builtin; refine wpList_append_fits _ rfl _ _ 22 rfl base 5 i0 1 Try.underlying22 hi hz1 G m cap _ rfl (hen.own.alloc _) ⟨wr.heap.size, 0, none⟩ 2 2 (cl [92, 98]) rfl rfl (cells_new _ _ _) (cl_one _) (by omega) ?_)
        intro w3 hown3 hgrow3
        have hst : Hid (EN w xs base G n cap esc s (k + 1) (m + 2) w3) := hen.step hlt [92, 98] HU.out hown3 hgrow3
        clear hown3 hgrow3 hen HU
        go_wp2_with fail
        go_roundw
        case rel => exact ⟨k + 1, m + 2, by omega, by go_num, rfl, hst.out⟩
        case measure => simp [intOf]; omega
      have b8 : ((s[k].toNat : Int) == 8) = false := by rw [beq_eq_false_iff_ne]; exact h8
      by_cases h12 : (s[k].toNat : Int) = 12
      · have HU : Hid (unit esc (s[k].toNat : Int) = [92, 102]) := by unfold Hid unit; rw [if_neg (not_or.mpr ⟨h34, h92⟩), if_neg h47, if_neg h10, if_neg h13, if_neg h9, if_neg h8, if_pos h12]
        have b12 : ((s[k].toNat : Int) == 12) = true := by rw [beq_iff_eq]; exact h12
        have b47 : ((s[k].toNat : Int) == 47) = false := by rw [h12]; rfl
        go_wp2_with (at_builtin; refine wpList_append_fits _ rfl _ _ 22 rfl base 5 i0 1 Try.underlying22 hi hz1 G m cap _ rfl (hen.own.alloc _) ⟨wr.heap.size, 0, none⟩ 2 2 (cl [92, 102]) rfl rfl (cells_new _ _ _) (cl_one _) (by omega) ?_)
        intro w3 hown3 hgrow3
        have hst : Hid (EN w xs base G n cap esc s (k + 1) (m + 2) w3) := hen.step hlt [92, 102] HU.out hown3 hgrow3
        clear hown3 hgrow3 hen HU
        go_wp2_with fail
        go_roundw
        case rel => exact ⟨k + 1, m + 2, by omega, by go_num, rfl, hst.out⟩
        case measure => simp [intOf]; omega
      have b12 : ((s[k].toNat : Int) == 12) = false := by rw [beq_eq_false_iff_ne]; exact h12
      by_cases h32 : (s[k].toNat : Int) < 32
      · have HU : Hid (unit esc (s[k].toNat : Int) = [92, 117, 48, 48, hexD ((s[k].toNat : Int) / 16), hexD ((s[k].toNat : Int) % 16)]) := by unfold Hid unit; rw [if_neg (not_or.mpr ⟨h34, h92⟩), if_neg h47, if_neg h10, if_neg h13, if_neg h9, if_neg h8, if_neg h12, if_pos h32]
        have b47 : ((s[k].toNat : Int) == 47) = false := by rw [beq_eq_false_iff_ne]; omega
        have hand : bits .and .u8 (s[k].toNat : Int) 15 = (s[k].toNat : Int) % 16 := by
          rw [u8_and _ _ (by omega) (by omega) (by omega) (by omega)]
          simp [nat_mask4]
        go_wp2_with fail
        refine (hexDigit_any _ _ (by omega) (by omega)).mono ?_
        rintro e1 w1' ⟨rfl, h1'⟩
        subst w1'
        go_wp2_with fail
        refine (hexDigit_any _ _ (by omega) (by omega)).mono ?_
        rintro e2 w2' ⟨rfl, h2'⟩
        subst w2'
        go_wp2_with (at_builtin; refine wpList_append_fits _ rfl _ _ 22 rfl base 5 i0 1 Try.underlying22 hi hz1 G m cap _ rfl (hen.own.alloc _) ⟨wr.heap.size, 0, none⟩ 6 6 (cl [92, 117, 48, 48, hexD ((s[k].toNat : Int) / 16), hexD ((s[k].toNat : Int) % 16)]) rfl rfl (cells_new _ _ _) (cl_one _) (by omega) ?_)
        intro w3 hown3 hgrow3
        have hst : Hid (EN w xs base G n cap esc s (k + 1) (m + 6) w3) := hen.step hlt [92, 117, 48, 48, hexD ((s[k].toNat : Int) / 16), hexD ((s[k].toNat : Int) % 16)] HU.out hown3 hgrow3
        clear hown3 hgrow3 hen HU
        go_wp2_with fail
        go_roundw
        case rel => exact ⟨k + 1, m + 6, by omega, by go_num, rfl, hst.out⟩
        case measure => simp [intOf]; omega
      have HU : Hid (unit esc (s[k].toNat : Int) = [(s[k].toNat : Int)]) := by unfold Hid unit; rw [if_neg (not_or.mpr ⟨h34, h92⟩), if_neg h47, if_neg h10, if_neg h13, if_neg h9, if_neg h8, if_neg h12, if_neg h32]
      by_cases g47 : (s[k].toNat : Int) = 47
      · obtain rfl : esc = false := by cases esc with | false => rfl | true => exact absurd ⟨g47, rfl⟩ h47
        have b47 : ((s[k].toNat : Int) == 47) = true := by rw [beq_iff_eq]; exact g47
        rw [g47] at HU
        go_wp2_with (at_builtin; refine wpList_append_fits _ rfl _ _ 22 rfl base 5 i0 1 Try.underlying22 hi hz1 G m cap _ rfl (hen.own.alloc _) ⟨wr.heap.size, 0, none⟩ 1 1 (cl [47]) rfl rfl (cells_new _ _ _) (cl_one _) (by omega) ?_)
        intro w3 hown3 hgrow3
        have hst : Hid (EN w xs base G n cap false s (k + 1) (m + 1) w3) := hen.step hlt [47] (by rw [g47]; exact HU.out) hown3 hgrow3
        clear hown3 hgrow3 hen HU
        go_wp2_with fail
        go_roundw
        case rel => exact ⟨k + 1, m + 1, by omega, by go_num, rfl, hst.out⟩
        case measure => simp [intOf]; omega
      · have b47 : ((s[k].toNat : Int) == 47) = false := by rw [beq_eq_false_iff_ne]; exact g47
        go_wp2_with (at_builtin; refine wpList_append_fits _ rfl _ _ 22 rfl base 5 i0 1 Try.underlying22 hi hz1 G m cap _ rfl (hen.own.alloc _) ⟨wr.heap.size, 0, none⟩ 1 1 (cl [(s[k].toNat : Int)]) rfl rfl (cells_new _ _ _) (cl_one _) (by omega) ?_)
        intro w3 hown3 hgrow3
        have hst : Hid (EN w xs base G n cap esc s (k + 1) (m + 1) w3) := hen.step hlt [(s[k].toNat : Int)] HU.out hown3 hgrow3
        clear hown3 hgrow3 hen HU
        go_wp2_with fail
        go_roundw
        case rel => exact ⟨k + 1, m + 1, by omega, by go_num, rfl, hst.out⟩
        case measure => simp [intOf]; omega
    · go_wp2_with (at_builtin; refine wpList_append_fits _ rfl _ _ 22 rfl base 5 i0 1 Try.underlying22 hi hz1 G m cap _ rfl (hen.own.alloc _) ⟨wr.heap.size, 0, none⟩ 1 1 (cl [34]) rfl rfl (cells_new _ _ _) (cl_one _) (by omega) ?_)
      intro w3 hown3 hgrow3
      go_wp2_with fail
      go_ret
      refine ⟨m + 1, rfl, by omega, ?_, (hen.grown.trans (World.grownBy_alloc wr _ (some G))).trans hgrow3⟩
      rw [List.take_of_length_le (by rw [ints_length]; omega)] at hown3
      rw [← List.cons_append, cl_append]
      exact hown3
end Go.Proofs.Qxb6001559a
