import Derived.Test.Qxb6001559aEnc
namespace Go.Proofs.Qxb6001559a
open Go.RowKit
open Plain

theorem ints_pos (s : ByteArray) : ∀ c ∈ ints s, 0 ≤ c := by
  intro c hc; simp only [ints, List.mem_map] at hc; obtain ⟨u, _, rfl⟩ := hc; omega

/-- The cells of a byte slice, as 'append' asks for them. -/
theorem BR.parts {w : World} {v : Value} {zs : List Int} (h : BR w v zs) : ∃ ao cap, v = .slice ao zs.length cap ∧ (ao = none → zs.length = 0 ∧ cap = 0) ∧ ∀ ad, ao = some ad → ∀ j u, (cl zs)[j]? = some u → w.cell? (ad.add j) = some u := by
  obtain ⟨_, a, cap, e, h1, h2⟩ := h
  refine ⟨a, cap, e, h1, ?_⟩
  intro ad had j u hu
  have hj : j < zs.length := by
    rcases Nat.lt_or_ge j zs.length with g | g
    · exact g
    · rw [List.getElem?_eq_none (by simpa [cl] using g)] at hu; cases hu
  obtain ⟨b, off, e2, h3⟩ := h2 j hj
  rw [had] at e2
  injection e2 with e2
  subst e2
  rw [add_plain, h3]
  simp [cl, hj] at hu
  rw [hu]

theorem BR.cells {w : World} {a : Option Addr} {n cap : Nat} {zs : List Int} (h : BR w (.slice a n cap) zs) : ∀ ad, a = some ad → ∀ j u, (cl zs)[j]? = some u → w.cell? (ad.add j) = some u := by
  obtain ⟨ao, c, e, _, h2⟩ := h.parts
  injection e with e1 e2 e3
  subst e1
  exact h2

/-- A row that is owned: its cells. -/
theorem cells_own {w : World} {base g n cap : Nat} {l : List Int} (h : w.ownsRow base 5 1 (.slice (some ⟨g, 0, none⟩) n cap) n (cl l)) : l.length = n ∧ ∀ j, (hj : j < l.length) → w.cell? ⟨g, j, none⟩ = some (.int .u8 l[j]) := by
  have hl := h.1
  simp [cl] at hl
  refine ⟨hl, fun j hj => ?_⟩
  have := h.cells (g := g) rfl j (.int .u8 l[j]) (by simp [cl, hj])
  rw [add_plain, Nat.zero_add] at this
  exact this

theorem the_end (P S : List Int) (esc : Bool) (s : ByteArray) : se ((P ++ (34 :: body esc (ints s) ++ [34]) ++ S).drop (P.length + 1)) (P.length + 1) = some (P.length + (34 :: body esc (ints s) ++ [34]).length) := by
  have e : P ++ (34 :: body esc (ints s) ++ [34]) ++ S = (P ++ [34]) ++ (body esc (ints s) ++ 34 :: S) := by simp
  rw [e, show P.length + 1 = (P ++ [34]).length by simp, List.drop_left, se_body esc _ (ints_pos s)]
  simp
  omega

set_option maxRecDepth 100000 in
set_option maxHeartbeats 1000000 in
theorem law (v0 v2 : Value) (P S : List Int) (s : ByteArray) (esc : Bool) (w : World) (h0 : BR w v0 P) (h2 : BR w v2 S) (hP : P.length ≤ 9223372036854775807) (hs : s.size ≤ 9223372036854775807) (hS : S.length ≤ 9223372036854775807) :
    Calls Try.prog 3 #[v0, .string s, v2, .bool esc] w fun e w' => e = .returned (.bool true) ∧ Below w.heap.size w w' := by
  obtain ⟨i0, hi, hz0, hz1, hz2⟩ := info_parts info5
  obtain ⟨a0, c0, e0, _, _⟩ := h0.parts
  obtain ⟨a2, c2, e2, _, _⟩ := h2.parts
  obtain ⟨n0, Hn0⟩ := name_it P.length
  obtain ⟨n2, Hn2⟩ := name_it S.length
  have hzz := zz_any a0 a2 n0 c0 n2 c2 s esc w (by rw [Hn0.out]; exact hP) hs (by rw [Hn2.out]; exact hS)
  rw [← Hn0.out] at hP e0
  rw [← Hn2.out] at hS e2
  subst e0
  subst e2
  have H0 := hide h0
  have H2 := hide h2
  clear h0 h2
  go_enter Try.func3, Try.ntmps3
  go_wp2_with fail
  refine hzz.mono ?_
  rintro e w1 ⟨⟨b, rfl, hb⟩, h1⟩
  subst w1
  clear hzz
  cases b with
  | false =>
    clear hb
    go_wp2_with fail
    go_ret
    exact ⟨rfl, Below.refl _ _⟩
  | true =>
    have hb := hb rfl
    have t0 : ¬ 1048576 < n0 := by omega
    have t1 : ¬ 1048576 < s.size := by omega
    have t2 : ¬ 1048576 < n2 := by omega
    by_cases t3 : 1048576 < n0 + 6 * s.size + 2 + n2
    · go_wp2_with fail
      go_ret
      exact ⟨rfl, Below.refl _ _⟩
    · go_wp2_with fail
      refine (clone_any _ P w H0.out (by rw [← Hn0.out]; omega)).mono ?_
      rintro e w1 ⟨v0', rfl, hv0, hb1⟩
      have H2' := hide (H2.out.below hb1)
      clear H0 H2
      go_wp2_with fail
      refine (clone_any _ S w1 H2'.out (by rw [← Hn2.out]; omega)).mono ?_
      rintro e w2 ⟨v2', rfl, hv2, hb2⟩
      have hv0 := hv0.below hb2
      have hw2 := hide (hb1.trans (hb2.mono hb1.size))
      clear H2' hb1 hb2
      obtain ⟨x0, y0, rfl, q0, r0⟩ := hv0.parts
      obtain ⟨x2, y2, rfl, q2, r2⟩ := hv2.parts
      have HV0 := hide hv0
      have HV2 := hide hv2
      have R0 := hide r0
      have R2 := hide r2
      have Q0 := hide q0
      have Q2 := hide q2
      clear hv0 hv2 r0 r2 q0 q2
      rw [← Hn0.out, ← Hn2.out]
      go_wp2_with (at_make; refine wpList_make_own _ rfl _ _ 22 rfl w2.heap.size 5 i0 (.int .u8 0) 1 Try.underlying22 hi hz0 hz1 _ _ _ (n0 + 6 * s.size + 2 + n2) rfl rfl (by omega) ?b2 ?b3 (Nat.le_refl _) ?_)
      case b2 => rw [hz2]; omega
      case b3 => unfold maxLen; omega
      intro w3 hown3 hgrow3
      have hb3 : Below w2.heap.size w2 w3 := (Below.refl _ _).grown hgrow3 (Nat.le_refl _) (fun k h => by cases h)
      clear hgrow3
      obtain ⟨C, HC⟩ := name_it (n0 + 6 * s.size + 2 + n2)
      obtain ⟨G, HG⟩ := name_it w2.heap.size
      have hC : C ≤ 1048576 := by rw [HC.out]; omega
      have hC2 : n0 + 6 * s.size + 2 + n2 ≤ C := by rw [HC.out]; omega
      rw [← HC.out] at hown3 ⊢
      rw [← HG.out] at hown3 ⊢
      have P0 := hide (HV0.out.below hb3)
      have hnp : (cl P).length = n0 * 1 := by unfold cl; rw [List.length_map, Nat.mul_one, Hn0.out]
      have hns : (cl S).length = n2 * 1 := by unfold cl; rw [List.length_map, Nat.mul_one, Hn2.out]
      have HP := hide hnp
      have HS := hide hns
      clear hnp hns
      have RR0 : Hid (∀ ad, x0 = some ad → ∀ j u, (cl P)[j]? = some u → w3.cell? (ad.add j) = some u) := P0.out.cells
      go_wp2_with (at_builtin; refine wpList_append_fits_any _ rfl _ _ 22 rfl G 5 i0 1 Try.underlying22 hi hz1 G 0 C _ rfl hown3 x0 n0 y0 (cl P) rfl HP.out (fun e => by rw [Hn0.out]; exact Q0.out e) RR0.out (cl_one _) (by omega) ?_)
      intro w4 hown4 hgrow4
      have hG : w2.heap.size ≤ G := by rw [HG.out]; omega
      have hb4 : Below w2.heap.size w2 w4 := hb3.grown hgrow4 hb3.size (fun k h => by cases h; exact hG)
      have hown4' : w4.ownsRow G 5 1 (.slice (some ⟨G, 0, none⟩) n0 C) n0 (cl P) := by simpa using hown4
      have HE := hide (encode_any G G n0 C (cl P) s esc w4 hown4' (by omega) hC)
      clear hown3 hown4 hown4' hgrow4 RR0 P0 hb3
      go_wp2_with fail
      refine HE.out.mono ?_
      rintro e w5 ⟨m, rfl, hm, hown5, hgrow5⟩
      have hb5 : Below w2.heap.size w2 w5 := hb4.grown hgrow5 hb4.size (fun k h => by cases h; exact hG)
      have RR2 : Hid (∀ ad, x2 = some ad → ∀ j u, (cl S)[j]? = some u → w5.cell? (ad.add j) = some u) := (HV2.out.below hb5).cells
      have hm5 := hown5.1
      rw [← cl_append] at hown5 hm5
      have HM : Hid (m = n0 + (34 :: body esc (ints s) ++ [34]).length) := by
        unfold cl at hm5
        rw [List.length_map, List.length_append, ← Hn0.out] at hm5
        unfold Hid; omega
      obtain ⟨E, HEE⟩ := name_it (34 :: body esc (ints s) ++ [34])
      rw [← HEE.out] at hown5 HM
      clear HE hgrow5 hm5 hb4
      go_wp2_with (at_builtin; refine wpList_append_fits_any _ rfl _ _ 22 rfl G 5 i0 1 Try.underlying22 hi hz1 G m C _ rfl hown5 x2 n2 y2 (cl S) rfl HS.out (fun e => by rw [Hn2.out]; exact Q2.out e) RR2.out (cl_one _) (by omega) ?_)
      intro w6 hown6 hgrow6
      have hb6 : Below w2.heap.size w2 w6 := hb5.grown hgrow6 hb5.size (fun k h => by cases h; exact hG)
      rw [← cl_append] at hown6
      obtain ⟨hlen, hcells⟩ := cells_own hown6
      have hend := the_end P S esc s
      rw [← HEE.out, ← Hn0.out, ← HM.out] at hend
      have HZ := hide (zzEnd_any (P ++ E ++ S) G C n0 m w6 (by omega) hcells (by omega) hend)
      rw [hlen] at HZ
      clear hown5 hown6 hgrow6 hlen hcells hend hb5 RR2
      go_wp2_with fail
      refine HZ.out.mono ?_
      rintro e w7 ⟨rfl, h7⟩
      subst w7
      go_wp2_with fail
      go_ret
      exact ⟨rfl, hw2.out.trans (hb6.mono hw2.out.size)⟩
end Go.Proofs.Qxb6001559a
