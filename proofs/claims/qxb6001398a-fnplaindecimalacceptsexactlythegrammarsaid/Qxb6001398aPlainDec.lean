import Derived.Test.Qxb6001398aRead
namespace Go.Proofs.Qxb6001398a
open Go.RowKit
open Plain
set_option linter.unusedVariables false

/-- plainDecimal's own memory: its result at block w.heap.size, its n at the next. -/
structure PW (w : World) (ng : Bool) (wh fr : ByteArray) (wr : World) : Prop where
  below : Below w.heap.size w wr
  size : w.heap.size + 2 ≤ wr.heap.size
  ca : ∀ o, o < 4 → ∃ v, wr.cell? ⟨w.heap.size, o, none⟩ = some v
  fa : ∀ o, wr.frozen? ⟨w.heap.size, o, none⟩ = false
  b0 : wr.cell? ⟨w.heap.size + 1, 0, none⟩ = some (.bool ng)
  b1 : wr.cell? ⟨w.heap.size + 1, 1, none⟩ = some (.string wh)
  b2 : wr.cell? ⟨w.heap.size + 1, 2, none⟩ = some (.string fr)
  b3 : ∃ d : Int, wr.cell? ⟨w.heap.size + 1, 3, none⟩ = some (.int .i64 d)
  fb : ∀ o, wr.frozen? ⟨w.heap.size + 1, o, none⟩ = false

theorem PW.only {w wr w1 : World} {ng : Bool} {wh fr : ByteArray} (h : PW w ng wh fr wr) (hoc : OnlyCell (w.heap.size + 1) wr w1) (hd : ∃ d : Int, w1.cell? ⟨w.heap.size + 1, 3, none⟩ = some (.int .i64 d)) : PW w ng wh fr w1 := by
  have hb : w1.heap[w.heap.size]? = wr.heap[w.heap.size]? := hoc.block _ (by omega)
  refine ⟨h.below.trans ⟨hoc.os, hoc.tape, hoc.output, by rw [hoc.size]; exact Nat.le_refl _, fun k hk => hoc.block k (by omega)⟩, by rw [hoc.size]; exact h.size, ?_, ?_, ?_, ?_, ?_, hd, ?_⟩
  · intro o ho
    rw [World.cell?_of_block (w := wr) hb]
    exact h.ca o ho
  · intro o
    rw [World.frozen?_of_block (w := wr) hb]
    exact h.fa o
  · rw [hoc.cell 0 (by omega)]; exact h.b0
  · rw [hoc.cell 1 (by omega)]; exact h.b1
  · rw [hoc.cell 2 (by omega)]; exact h.b2
  · intro o; rw [hoc.frozen]; exact h.fb o

theorem PW.set1 {w wr : World} {ng : Bool} {wh fr : ByteArray} (h : PW w ng wh fr wr) (x : ByteArray) : PW w ng x fr (wr.setCell ⟨w.heap.size + 1, 1, none⟩ (.string x)) := by
  refine ⟨h.below.setCell (by simp) _, by simpa [World.setCell] using h.size, ?_, ?_, ?_, World.cell?_setCell_same _ _ _ h.b1, ?_, ?_, ?_⟩
  · intro o ho; obtain ⟨v, hv⟩ := h.ca o ho; exact cell?_setCell_some hv
  · intro o; rw [World.frozen?_setCell]; exact h.fa o
  · rw [World.cell?_setCell_other _ _ _ _ (by simp)]; exact h.b0
  · rw [World.cell?_setCell_other _ _ _ _ (by simp)]; exact h.b2
  · obtain ⟨d, hd⟩ := h.b3; exact ⟨d, by rw [World.cell?_setCell_other _ _ _ _ (by simp)]; exact hd⟩
  · intro o; rw [World.frozen?_setCell]; exact h.fb o

theorem PW.set2 {w wr : World} {ng : Bool} {wh fr : ByteArray} (h : PW w ng wh fr wr) (x : ByteArray) : PW w ng wh x (wr.setCell ⟨w.heap.size + 1, 2, none⟩ (.string x)) := by
  refine ⟨h.below.setCell (by simp) _, by simpa [World.setCell] using h.size, ?_, ?_, ?_, ?_, World.cell?_setCell_same _ _ _ h.b2, ?_, ?_⟩
  · intro o ho; obtain ⟨v, hv⟩ := h.ca o ho; exact cell?_setCell_some hv
  · intro o; rw [World.frozen?_setCell]; exact h.fa o
  · rw [World.cell?_setCell_other _ _ _ _ (by simp)]; exact h.b0
  · rw [World.cell?_setCell_other _ _ _ _ (by simp)]; exact h.b1
  · obtain ⟨d, hd⟩ := h.b3; exact ⟨d, by rw [World.cell?_setCell_other _ _ _ _ (by simp)]; exact hd⟩
  · intro o; rw [World.frozen?_setCell]; exact h.fb o

theorem PW.start (w : World) (ng : Bool) : PW w ng ⟨#[]⟩ ⟨#[]⟩ ((w.alloc (.cells #[.bool false, .string ⟨#[]⟩, .string ⟨#[]⟩, .int .i64 0] 41)).alloc (.cells #[.bool ng, .string ⟨#[]⟩, .string ⟨#[]⟩, .int .i64 0] 41)) := by
  refine ⟨((Below.refl _ _).alloc (Nat.le_refl _) _).alloc (by simp) _, by simp, ?_, ?_, ?_, ?_, ?_, ?_, ?_⟩
  · intro o ho
    rw [World.cell?_alloc_past _ _ _ (by simp), World.cell?_alloc_at _ _ _ _ rfl]
    exact ⟨_, Array.getElem?_eq_getElem (by simpa using ho)⟩
  · intro o
    rw [World.frozen?_alloc_past _ _ _ (by simp)]; exact World.frozen?_alloc_at _ _ _ _ rfl
  · rw [World.cell?_alloc_at _ _ _ _ (by simp)]; rfl
  · rw [World.cell?_alloc_at _ _ _ _ (by simp)]; rfl
  · rw [World.cell?_alloc_at _ _ _ _ (by simp)]; rfl
  · exact ⟨0, by rw [World.cell?_alloc_at _ _ _ _ (by simp)]; rfl⟩
  · intro o; exact World.frozen?_alloc_at _ _ _ _ (by simp)

/-- What plainDecimal hands back. -/
def PDres (s : ByteArray) (p : Int) (v : Value) : Prop :=
  (pdB (bodyOf s.data.toList) p = none ∧ v = .tuple #[.agg #[.bool false, .string ⟨#[]⟩, .string ⟨#[]⟩, .int .i64 0], .bool false]) ∨
  ∃ (wh fr : List UInt8) (d : Int), pdB (bodyOf s.data.toList) p = some (wh, fr) ∧ v = .tuple #[.agg #[.bool (negOf s.data.toList), .string ⟨wh.toArray⟩, .string ⟨fr.toArray⟩, .int .i64 d], .bool true]

theorem extract_list (s : ByteArray) (a b : Nat) : s.extract a b = ⟨((s.data.toList.drop a).take (b - a)).toArray⟩ := list_take_drop (L := s.data.toList) a b

theorem pdB_A {b : List UInt8} {p : Int} (h : (dI b).length = 0) : pdB b p = none := by
  unfold pdB; rw [if_pos (List.eq_nil_of_length_eq_zero h)]
theorem pdB_B {b : List UInt8} {p : Int} (h : (dI b).length ≠ 0) (hr : dR b = []) : pdB b p = some ((dI b).dropWhile isZ, []) := by
  unfold pdB; rw [if_neg (by intro e; apply h; rw [e]; rfl), hr]
theorem pdB_C {b t : List UInt8} {c : UInt8} {p : Int} (h : (dI b).length ≠ 0) (hr : dR b = c :: t) (hc : c ≠ 46) : pdB b p = none := by
  unfold pdB; rw [if_neg (by intro e; apply h; rw [e]; rfl), hr]; simp [hc]
theorem pdB_D {b t : List UInt8} {p : Int} (h : (dI b).length ≠ 0) (hr : dR b = 46 :: t) (hx : dR t ≠ [] ∨ dI t = [] ∨ p < ((dI t).length : Int)) : pdB b p = none := by
  unfold pdB; rw [if_neg (by intro e; apply h; rw [e]; rfl), hr]; simp only [ne_eq, not_true_eq_false, if_false]; rw [if_pos hx]
theorem pdB_E {b t : List UInt8} {p : Int} (h : (dI b).length ≠ 0) (hr : dR b = 46 :: t) (hx : ¬ (dR t ≠ [] ∨ dI t = [] ∨ p < ((dI t).length : Int))) : pdB b p = some ((dI b).dropWhile isZ, dI t) := by
  unfold pdB; rw [if_neg (by intro e; apply h; rw [e]; rfl), hr]; simp only [ne_eq, not_true_eq_false, if_false]; rw [if_neg hx]

theorem drop_dI (b : List UInt8) : b.drop (dI b).length = dR b := by
  conv => lhs; rw [dI_dR b]
  conv => lhs; arg 1; rw [← dI_dR b]
  exact List.drop_left' rfl
theorem pd_rest (s : ByteArray) (st X : Nat) (hs : startOf s.data.toList = st) (hX : X = st + (dI (bodyOf s.data.toList)).length) : dR (bodyOf s.data.toList) = s.data.toList.drop X := by
  rw [← drop_dI (bodyOf s.data.toList), hX]
  unfold bodyOf
  rw [List.drop_drop, hs]

theorem pd_frac (s : ByteArray) (a Y : Nat) (hY : Y = a + (dI (s.data.toList.drop a)).length) : s.extract a Y = ⟨(dI (s.data.toList.drop a)).toArray⟩ := by
  rw [extract_list]
  generalize s.data.toList.drop a = t at *
  have hd : t = dI t ++ dR t := dI_dR _
  rw [show Y - a = (dI t).length by omega]
  conv => lhs; rw [hd]
  conv => lhs; arg 1; arg 1; arg 1; rw [← hd]
  rw [List.take_left' rfl]

theorem list_eq (s : ByteArray) (h0 : s.size = 0) : (s.toList == []) = true := by
  rw [ByteArray.toList_eq, List.eq_nil_of_length_eq_zero (show s.data.toList.length = 0 by simpa using h0)]; rfl

theorem list_ne (s : ByteArray) (h0 : ¬ s.size = 0) : (s.toList == []) = false := by
  rw [ByteArray.toList_eq]
  cases hl : s.data.toList with
  | nil => have e : s.data.toList.length = s.size := by simp
           rw [hl] at e
           simp only [List.length_nil] at e
           omega
  | cons a l => rfl

theorem drop_ne (l : List UInt8) (Y : Nat) (h : Y < l.length) : l.drop Y ≠ [] := by
  intro e
  have := congrArg List.length e
  simp at this
  omega

theorem below4 {w w1 : World} (h : Below w.heap.size w w1) (x0 x1 x2 x3 : Value) : Below w.heap.size w ((((w1.setCell ⟨w.heap.size, 0, none⟩ x0).setCell ⟨w.heap.size, 1, none⟩ x1).setCell ⟨w.heap.size, 2, none⟩ x2).setCell ⟨w.heap.size, 3, none⟩ x3) :=
  (((h.setCell (Nat.le_refl _) _).setCell (Nat.le_refl _) _).setCell (Nat.le_refl _) _).setCell (Nat.le_refl _) _

theorem hide {p : Prop} (h : p) : Hid p := h

theorem rd_le (s : ByteArray) (k : Nat) (hk : k ≤ s.size) : k + (dI (s.data.toList.drop k)).length ≤ s.size := by
  have h1 : (dI (s.data.toList.drop k)).length ≤ (s.data.toList.drop k).length := by
    have := congrArg List.length (dI_dR (s.data.toList.drop k))
    rw [List.length_append] at this
    omega
  rw [List.length_drop] at h1
  have hl : s.data.toList.length = s.size := by simp
  omega


/-- The whole digits: where they end, and what is left of them behind the noughts. -/
theorem pd_first (s : ByteArray) (st k X : Nat) (hs : startOf s.data.toList = st) (hk0 : st ≤ k) (hz : ∀ j, st ≤ j → j < k → s.data.toList[j]? = some 48)
    (he : ¬ (k < s.size ∧ s.data.toList[k]? = some 48)) (hX : X = k + (dI (s.data.toList.drop k)).length) :
    X = st + (dI (bodyOf s.data.toList)).length ∧ s.extract k X = ⟨((dI (bodyOf s.data.toList)).dropWhile isZ).toArray⟩ := by
  have hl : s.data.toList.length = s.size := by simp
  have hext := extract_list s k X
  unfold bodyOf
  rw [hs]
  generalize s.data.toList = l at *
  have e1 : l.drop st = List.replicate (k - st) 48 ++ l.drop k := by
    have e : l.drop st = (l.drop st).take (k - st) ++ (l.drop st).drop (k - st) := (List.take_append_drop _ _).symm
    rw [e, List.drop_drop, show st + (k - st) = k by omega]
    congr 1
    apply List.ext_getElem?
    intro i
    rw [List.getElem?_take, List.getElem?_replicate]
    split
    · rename_i h; rw [List.getElem?_drop]; exact hz (st + i) (by omega) (by omega)
    · rfl
  have hrep : ∀ a ∈ List.replicate (k - st) (48 : UInt8), isDig a = true := by
    intro a ha; rw [List.eq_of_mem_replicate ha]; rfl
  have hrep2 : ∀ a ∈ List.replicate (k - st) (48 : UInt8), isZ a = true := by
    intro a ha; rw [List.eq_of_mem_replicate ha]; rfl
  have e2 : dI (l.drop st) = List.replicate (k - st) 48 ++ dI (l.drop k) := by
    unfold dI; rw [e1, List.takeWhile_append_of_pos hrep]
  have e3 : (dI (l.drop k)).dropWhile isZ = dI (l.drop k) := by
    have hd : l.drop k = dI (l.drop k) ++ dR (l.drop k) := dI_dR _
    cases hc : dI (l.drop k) with
    | nil => rfl
    | cons c t =>
      have hkc : l[k]? = some c := by
        have : (l.drop k)[0]? = some c := by rw [hd, hc]; rfl
        rw [List.getElem?_drop] at this
        simpa using this
      have hkl : k < l.length := by
        rcases Nat.lt_or_ge k l.length with g | g
        · exact g
        · rw [List.getElem?_eq_none g] at hkc; cases hkc
      have : isZ c = false := by
        unfold isZ
        rw [beq_eq_false_iff_ne]
        intro e; subst e; exact he ⟨by omega, hkc⟩
      rw [List.dropWhile_cons, this]; rfl
  constructor
  · rw [e2, hX, List.length_append, List.length_replicate]; omega
  · rw [e2, List.dropWhile_append_of_pos hrep2, e3]
    rw [hext]
    have hd : l.drop k = dI (l.drop k) ++ dR (l.drop k) := dI_dR _
    conv => lhs; rw [hd]
    rw [hX, show k + (dI (l.drop k)).length - k = (dI (l.drop k)).length by omega, List.take_left]

set_option maxHeartbeats 1600000 in
theorem pd_neg (s : ByteArray) (p : Int) (w : World) (hs : s.size ≤ 1048576) (hp1 : -2147483648 ≤ p) (hp2 : p ≤ 2147483647) (h0 : 0 < s.size) (h1 : ((s[0].toNat : Int) == 45) = true) (HS : Hid (startOf s.data.toList = 1)) (HN : Hid (negOf s.data.toList = true)) (hst : 1 ≤ s.size) :
    Calls Try.prog 29 #[.string s, .int .i32 p] w fun e w' => ∃ v, e = .returned v ∧ PDres s p v ∧ Below w.heap.size w w' := by
  go_enter Try.func29, Try.ntmps29
  go_wp2
  go_loopw [7] (fun iv wr => ∃ k : Nat, 1 ≤ k ∧ k ≤ s.size ∧ iv = .int .i64 (k : Int) ∧ Hid (∀ j, 1 ≤ j → j < k → s.data.toList[j]? = some 48) ∧ PW w true ⟨#[]⟩ ⟨#[]⟩ wr)
    (fun iv _ => s.size - (intOf iv).toNat)
  case atStart => exact ⟨1, by omega, by omega, rfl, fun j h1 h2 => by omega, PW.start w true⟩
  case round =>
    obtain ⟨k, hk0, hk, rfl, HZ, hpw⟩ := hrel
    by_cases hlt : k < s.size ∧ s.data.toList[k]? = some 48
    · obtain ⟨hlt, hz⟩ := hlt
      have hz1 : ((s[k].toNat : Int) == 48) = true := by rw [byte_at? s k hlt] at hz; injection hz with e; rw [e]; rfl
      have HZ' : Hid (∀ j, 1 ≤ j → j < k + 1 → s.data.toList[j]? = some 48) := by
        intro j h1 h2
        rcases Nat.lt_or_ge j k with h | h
        · exact HZ.out j h1 h
        · obtain rfl : j = k := by omega
          exact hz
      clear hz
      go_wp2
      go_roundw
      case rel => exact ⟨k + 1, by omega, by omega, by go_num, HZ', hpw⟩
      case measure => simp [intOf]; omega
    · obtain ⟨d0, hb3⟩ := hpw.b3
      have hfb := hpw.fb 3
      have H30 := hide (readDigits_any (w.heap.size + 1) k s d0 wr hs hk hb3 hfb)
      have HE := hide hlt
      have htest : (s.size ≤ k ∧ decide ((k : Int) < (s.size : Int)) = false) ∨ ∃ h : k < s.size, ((s[k].toNat : Int) == 48) = false := by
        by_cases hl : k < s.size
        · refine Or.inr ⟨hl, ?_⟩
          rw [beq_eq_false_iff_ne]; intro e; apply hlt; refine ⟨hl, ?_⟩
          rw [byte_at? s k hl]; congr 1; apply UInt8.toNat_inj.1; show s[k].toNat = 48; omega
        · exact Or.inl ⟨by omega, by simp; omega⟩
      clear hlt hb3 hfb
      rcases htest with ⟨hl, ht⟩ | ⟨hl, ht⟩
      · go_wp2_with fail
        refine Calls.mono H30.out ?_
        rintro e w1 ⟨rfl, hd1, hoc⟩
        have hpw1 := hpw.only hoc hd1
        obtain ⟨X, HX, hX1, hX2⟩ : ∃ X : Nat, Hid (X = k + (dI (s.data.toList.drop k)).length) ∧ k ≤ X ∧ X ≤ s.size := ⟨_, rfl, by omega, rd_le s k hk⟩
        rw [← HX.out]
        have HB : Hid (X = 1 + (dI (bodyOf s.data.toList)).length ∧ s.extract k X = ⟨((dI (bodyOf s.data.toList)).dropWhile isZ).toArray⟩) := pd_first s 1 k X HS.out hk0 HZ.out HE.out HX.out
        clear hpw hoc hd1 H30 HX HE HZ
        obtain ⟨a0, ha0⟩ := hpw1.ca 0 (by omega)
        obtain ⟨a1, ha1⟩ := hpw1.ca 1 (by omega)
        obtain ⟨a2, ha2⟩ := hpw1.ca 2 (by omega)
        obtain ⟨a3, ha3⟩ := hpw1.ca 3 (by omega)
        have fa0 := hpw1.fa 0
        have fa1 := hpw1.fa 1
        have fa2 := hpw1.fa 2
        have fa3 := hpw1.fa 3
        have b0 := hpw1.b0
        have b1 := hpw1.b1
        have b2 := hpw1.b2
        obtain ⟨d1, b3⟩ := hpw1.b3
        have fb1 := hpw1.fb 1
        by_cases hA : X = 1
        · have HP : Hid (pdB (bodyOf s.data.toList) p = none) := pdB_A (by have := HB.out.1; omega)
          have hA1 : ((X : Int) == 1) = true := by rw [hA]; rfl
          clear hA
          go_wp2
          exact bodyPost_ret (v := .tuple #[.agg #[.bool false, .string ⟨#[]⟩, .string ⟨#[]⟩, .int .i64 0], .bool false]) (by simp [results, Try.results29, go_sem, ha0, ha1, ha2, ha3]) rfl ⟨_, rfl, Or.inl ⟨HP.out, rfl⟩, below4 hpw1.below _ _ _ _⟩
        · have hA1 : ((X : Int) == 1) = false := by rw [beq_eq_false_iff_ne]; omega
          have HI : Hid ((dI (bodyOf s.data.toList)).length ≠ 0) := by have := HB.out.1; unfold Hid; omega
          have HR : Hid (dR (bodyOf s.data.toList) = s.data.toList.drop X) := pd_rest s 1 X HS.out HB.out.1
          have HW : Hid (s.extract k X = ⟨((dI (bodyOf s.data.toList)).dropWhile isZ).toArray⟩) := HB.out.2
          by_cases hN : X = s.size
          · have HP : Hid (pdB (bodyOf s.data.toList) p = some ((dI (bodyOf s.data.toList)).dropWhile isZ, [])) := pdB_B HI.out (by rw [HR.out, hN]; simp)
            have hN1 : ((X : Int) == (s.size : Int)) = true := by rw [hN]; simp
            clear hN hA
            go_wp2
            exact bodyPost_ret (v := .tuple #[.agg #[.bool true, .string (s.extract k X), .string ⟨#[]⟩, .int .i64 d1], .bool true]) (by simp [results, Try.results29, go_sem, ha0, ha1, ha2, ha3]) rfl ⟨_, rfl, Or.inr ⟨_, _, d1, HP.out, by rw [HW.out, HN.out]⟩, below4 (hpw1.below.setCell (by simp) _) _ _ _ _⟩
          · exfalso; omega
      · go_wp2_with fail
        refine Calls.mono H30.out ?_
        rintro e w1 ⟨rfl, hd1, hoc⟩
        have hpw1 := hpw.only hoc hd1
        obtain ⟨X, HX, hX1, hX2⟩ : ∃ X : Nat, Hid (X = k + (dI (s.data.toList.drop k)).length) ∧ k ≤ X ∧ X ≤ s.size := ⟨_, rfl, by omega, rd_le s k hk⟩
        rw [← HX.out]
        have HB : Hid (X = 1 + (dI (bodyOf s.data.toList)).length ∧ s.extract k X = ⟨((dI (bodyOf s.data.toList)).dropWhile isZ).toArray⟩) := pd_first s 1 k X HS.out hk0 HZ.out HE.out HX.out
        clear hpw hoc hd1 H30 HX HE HZ
        obtain ⟨a0, ha0⟩ := hpw1.ca 0 (by omega)
        obtain ⟨a1, ha1⟩ := hpw1.ca 1 (by omega)
        obtain ⟨a2, ha2⟩ := hpw1.ca 2 (by omega)
        obtain ⟨a3, ha3⟩ := hpw1.ca 3 (by omega)
        have fa0 := hpw1.fa 0
        have fa1 := hpw1.fa 1
        have fa2 := hpw1.fa 2
        have fa3 := hpw1.fa 3
        have b0 := hpw1.b0
        have b1 := hpw1.b1
        have b2 := hpw1.b2
        obtain ⟨d1, b3⟩ := hpw1.b3
        have fb1 := hpw1.fb 1
        by_cases hA : X = 1
        · have HP : Hid (pdB (bodyOf s.data.toList) p = none) := pdB_A (by have := HB.out.1; omega)
          have hA1 : ((X : Int) == 1) = true := by rw [hA]; rfl
          clear hA
          go_wp2
          exact bodyPost_ret (v := .tuple #[.agg #[.bool false, .string ⟨#[]⟩, .string ⟨#[]⟩, .int .i64 0], .bool false]) (by simp [results, Try.results29, go_sem, ha0, ha1, ha2, ha3]) rfl ⟨_, rfl, Or.inl ⟨HP.out, rfl⟩, below4 hpw1.below _ _ _ _⟩
        · have hA1 : ((X : Int) == 1) = false := by rw [beq_eq_false_iff_ne]; omega
          have HI : Hid ((dI (bodyOf s.data.toList)).length ≠ 0) := by have := HB.out.1; unfold Hid; omega
          have HR : Hid (dR (bodyOf s.data.toList) = s.data.toList.drop X) := pd_rest s 1 X HS.out HB.out.1
          have HW : Hid (s.extract k X = ⟨((dI (bodyOf s.data.toList)).dropWhile isZ).toArray⟩) := HB.out.2
          by_cases hN : X = s.size
          · have HP : Hid (pdB (bodyOf s.data.toList) p = some ((dI (bodyOf s.data.toList)).dropWhile isZ, [])) := pdB_B HI.out (by rw [HR.out, hN]; simp)
            have hN1 : ((X : Int) == (s.size : Int)) = true := by rw [hN]; simp
            clear hN hA
            go_wp2
            exact bodyPost_ret (v := .tuple #[.agg #[.bool true, .string (s.extract k X), .string ⟨#[]⟩, .int .i64 d1], .bool true]) (by simp [results, Try.results29, go_sem, ha0, ha1, ha2, ha3]) rfl ⟨_, rfl, Or.inr ⟨_, _, d1, HP.out, by rw [HW.out, HN.out]⟩, below4 (hpw1.below.setCell (by simp) _) _ _ _ _⟩
          · have hN1 : ((X : Int) == (s.size : Int)) = false := by rw [beq_eq_false_iff_ne]; omega
            have hXN : X < s.size := by omega
            have HC : Hid (dR (bodyOf s.data.toList) = s[X] :: s.data.toList.drop (X + 1)) := by
              have := HR.out
              rw [List.drop_eq_getElem_cons (by simpa using hXN)] at this
              exact this
            by_cases h46 : s[X] = 46
            · have h46b : ((s[X].toNat : Int) != 46) = false := by rw [h46]; rfl
              have HD : Hid (dR (bodyOf s.data.toList) = 46 :: s.data.toList.drop (X + 1)) := by rw [← h46]; exact HC.out
              have hpw2 := hpw1.set1 (s.extract k X)
              obtain ⟨d2, hd2⟩ := hpw2.b3
              have H30 : Hid (Calls Try.prog 30 #[.pointer (some ⟨w.heap.size + 1, 0, none⟩), .string s, .int .i64 ((X : Int) + 1)] (w1.setCell ⟨w.heap.size + 1, 1, none⟩ (.string (s.extract k X))) fun e w' =>
                  e = .returned (.int .i64 ((X + 1 + (dI (s.data.toList.drop (X + 1))).length : Nat) : Int)) ∧ (∃ d : Int, w'.cell? ⟨w.heap.size + 1, 3, none⟩ = some (.int .i64 d)) ∧ OnlyCell (w.heap.size + 1) (w1.setCell ⟨w.heap.size + 1, 1, none⟩ (.string (s.extract k X))) w') := readDigits_any (w.heap.size + 1) (X + 1) s d2 _ hs (by omega) hd2 (hpw2.fb 3)
              clear h46 hN hA HC hd2
              go_wp2_with fail
              refine Calls.mono H30.out ?_
              rintro e w2 ⟨rfl, hd3, hoc⟩
              have hpw3 := hpw2.only hoc hd3
              clear H30 hd3 hoc hpw2 ha0 ha1 ha2 ha3 fa0 fa1 fa2 fa3 b0 b1 b2 b3 fb1 hpw1
              obtain ⟨Y, HY, hY1, hY2⟩ : ∃ Y : Nat, Hid (Y = X + 1 + (dI (s.data.toList.drop (X + 1))).length) ∧ X + 1 ≤ Y ∧ Y ≤ s.size := ⟨_, rfl, by omega, rd_le s (X + 1) (by omega)⟩
              rw [← HY.out]
              obtain ⟨ha0, fa0⟩ := (⟨hpw3.ca 0 (by omega), hpw3.fa 0⟩ : (∃ v, w2.cell? ⟨w.heap.size, 0, none⟩ = some v) ∧ _)
              obtain ⟨a0, ha0⟩ := ha0
              obtain ⟨a1, ha1⟩ := hpw3.ca 1 (by omega)
              obtain ⟨a2, ha2⟩ := hpw3.ca 2 (by omega)
              obtain ⟨a3, ha3⟩ := hpw3.ca 3 (by omega)
              have fa1 := hpw3.fa 1
              have fa2 := hpw3.fa 2
              have fa3 := hpw3.fa 3
              have b0 := hpw3.b0
              have b1 := hpw3.b1
              have b2 := hpw3.b2
              obtain ⟨d4, b3⟩ := hpw3.b3
              have fb2 := hpw3.fb 2
              have HF : Hid (s.extract (X + 1) Y = ⟨(dI (s.data.toList.drop (X + 1))).toArray⟩) := pd_frac s (X + 1) Y HY.out
              have HR2 : Hid (dR (s.data.toList.drop (X + 1)) = s.data.toList.drop Y) := by rw [← drop_dI, List.drop_drop, HY.out]; rfl
              obtain ⟨F, hF⟩ : ∃ F, s.extract (X + 1) Y = F := ⟨_, rfl⟩
              have HFs : Hid (F.size = (dI (s.data.toList.drop (X + 1))).length) := by rw [← hF, HF.out]; exact size_of_list _
              have HFd : Hid (F = ⟨(dI (s.data.toList.drop (X + 1))).toArray⟩) := by rw [← hF]; exact HF.out
              clear HF
              by_cases hYN : Y < s.size
              · have HP : Hid (pdB (bodyOf s.data.toList) p = none) := pdB_D HI.out HD.out (Or.inl (by rw [HR2.out]; exact drop_ne _ _ (by simpa using hYN)))
                go_wp2
                exact bodyPost_ret (v := .tuple #[.agg #[.bool false, .string ⟨#[]⟩, .string ⟨#[]⟩, .int .i64 0], .bool false]) (by simp [results, Try.results29, go_sem, ha0, ha1, ha2, ha3]) rfl ⟨_, rfl, Or.inl ⟨HP.out, rfl⟩, below4 (hpw3.below.setCell (by simp) _) _ _ _ _⟩
              · have hYN1 : decide ((Y : Int) < (s.size : Int)) = false := by simp; omega
                have hYN2 : s.size ≤ Y := by omega
                by_cases hF0 : F.size = 0
                · have HP : Hid (pdB (bodyOf s.data.toList) p = none) := pdB_D HI.out HD.out (Or.inr (Or.inl (List.eq_nil_of_length_eq_zero (by rw [← HFs.out]; exact hF0))))
                  have hF1 : (F.toList == []) = true := list_eq F hF0
                  clear hF0 hYN
                  go_wp2
                  exact bodyPost_ret (v := .tuple #[.agg #[.bool false, .string ⟨#[]⟩, .string ⟨#[]⟩, .int .i64 0], .bool false]) (by simp [results, Try.results29, go_sem, ha0, ha1, ha2, ha3]) rfl ⟨_, rfl, Or.inl ⟨HP.out, rfl⟩, below4 (hpw3.below.setCell (by simp) _) _ _ _ _⟩
                · have hF1 : (F.toList == []) = false := list_ne F hF0
                  have HE2 : Hid (dR (s.data.toList.drop (X + 1)) = []) := by rw [HR2.out]; apply List.drop_eq_nil_of_le; simp; omega
                  have HF2 : Hid (dI (s.data.toList.drop (X + 1)) ≠ []) := by intro e; apply hF0; rw [HFs.out, e]; rfl
                  by_cases hp : p < (F.size : Int)
                  · have HP : Hid (pdB (bodyOf s.data.toList) p = none) := pdB_D HI.out HD.out (Or.inr (Or.inr (by rw [← HFs.out]; exact hp)))
                    clear hF0 hYN
                    go_wp2
                    exact bodyPost_ret (v := .tuple #[.agg #[.bool false, .string ⟨#[]⟩, .string ⟨#[]⟩, .int .i64 0], .bool false]) (by simp [results, Try.results29, go_sem, ha0, ha1, ha2, ha3]) rfl ⟨_, rfl, Or.inl ⟨HP.out, rfl⟩, below4 (hpw3.below.setCell (by simp) _) _ _ _ _⟩
                  · have HP : Hid (pdB (bodyOf s.data.toList) p = some ((dI (bodyOf s.data.toList)).dropWhile isZ, dI (s.data.toList.drop (X + 1)))) := pdB_E HI.out HD.out (by
                      rintro (h | h | h)
                      · exact h HE2.out
                      · exact HF2.out h
                      · rw [← HFs.out] at h; exact hp h)
                    have hp3 : (F.size : Int) ≤ p := by omega
                    clear hF0 hYN hp
                    go_wp2
                    exact bodyPost_ret (v := .tuple #[.agg #[.bool true, .string (s.extract k X), .string F, .int .i64 d4], .bool true]) (by simp [results, Try.results29, go_sem, ha0, ha1, ha2, ha3]) rfl ⟨_, rfl, Or.inr ⟨_, _, d4, HP.out, by rw [HW.out, HN.out, HFd.out]⟩, below4 (hpw3.below.setCell (by simp) _) _ _ _ _⟩
            · have HP : Hid (pdB (bodyOf s.data.toList) p = none) := pdB_C HI.out HC.out h46
              have h46b : ((s[X].toNat : Int) != 46) = true := by
                rw [bne_iff_ne]; intro e; apply h46; apply UInt8.toNat_inj.1; show s[X].toNat = 46; omega
              clear h46 hN hA HC
              go_wp2
              exact bodyPost_ret (v := .tuple #[.agg #[.bool false, .string ⟨#[]⟩, .string ⟨#[]⟩, .int .i64 0], .bool false]) (by simp [results, Try.results29, go_sem, ha0, ha1, ha2, ha3]) rfl ⟨_, rfl, Or.inl ⟨HP.out, rfl⟩, below4 (hpw1.below.setCell (by simp) _) _ _ _ _⟩

set_option maxHeartbeats 1600000 in
theorem pd_pos (s : ByteArray) (p : Int) (w : World) (hs : s.size ≤ 1048576) (hp1 : -2147483648 ≤ p) (hp2 : p ≤ 2147483647) (h0 : 0 < s.size) (h1 : ((s[0].toNat : Int) == 45) = false) (HS : Hid (startOf s.data.toList = 0)) (HN : Hid (negOf s.data.toList = false)) (hst : 0 ≤ s.size) :
    Calls Try.prog 29 #[.string s, .int .i32 p] w fun e w' => ∃ v, e = .returned v ∧ PDres s p v ∧ Below w.heap.size w w' := by
  go_enter Try.func29, Try.ntmps29
  go_wp2
  go_loopw [7] (fun iv wr => ∃ k : Nat, 0 ≤ k ∧ k ≤ s.size ∧ iv = .int .i64 (k : Int) ∧ Hid (∀ j, 0 ≤ j → j < k → s.data.toList[j]? = some 48) ∧ PW w false ⟨#[]⟩ ⟨#[]⟩ wr)
    (fun iv _ => s.size - (intOf iv).toNat)
  case atStart => exact ⟨0, by omega, by omega, rfl, fun j h1 h2 => by omega, PW.start w false⟩
  case round =>
    obtain ⟨k, hk0, hk, rfl, HZ, hpw⟩ := hrel
    by_cases hlt : k < s.size ∧ s.data.toList[k]? = some 48
    · obtain ⟨hlt, hz⟩ := hlt
      have hz1 : ((s[k].toNat : Int) == 48) = true := by rw [byte_at? s k hlt] at hz; injection hz with e; rw [e]; rfl
      have HZ' : Hid (∀ j, 0 ≤ j → j < k + 1 → s.data.toList[j]? = some 48) := by
        intro j h1 h2
        rcases Nat.lt_or_ge j k with h | h
        · exact HZ.out j h1 h
        · obtain rfl : j = k := by omega
          exact hz
      clear hz
      go_wp2
      go_roundw
      case rel => exact ⟨k + 1, by omega, by omega, by go_num, HZ', hpw⟩
      case measure => simp [intOf]; omega
    · obtain ⟨d0, hb3⟩ := hpw.b3
      have hfb := hpw.fb 3
      have H30 := hide (readDigits_any (w.heap.size + 1) k s d0 wr hs hk hb3 hfb)
      have HE := hide hlt
      have htest : (s.size ≤ k ∧ decide ((k : Int) < (s.size : Int)) = false) ∨ ∃ h : k < s.size, ((s[k].toNat : Int) == 48) = false := by
        by_cases hl : k < s.size
        · refine Or.inr ⟨hl, ?_⟩
          rw [beq_eq_false_iff_ne]; intro e; apply hlt; refine ⟨hl, ?_⟩
          rw [byte_at? s k hl]; congr 1; apply UInt8.toNat_inj.1; show s[k].toNat = 48; omega
        · exact Or.inl ⟨by omega, by simp; omega⟩
      clear hlt hb3 hfb
      rcases htest with ⟨hl, ht⟩ | ⟨hl, ht⟩
      · go_wp2_with fail
        refine Calls.mono H30.out ?_
        rintro e w1 ⟨rfl, hd1, hoc⟩
        have hpw1 := hpw.only hoc hd1
        obtain ⟨X, HX, hX1, hX2⟩ : ∃ X : Nat, Hid (X = k + (dI (s.data.toList.drop k)).length) ∧ k ≤ X ∧ X ≤ s.size := ⟨_, rfl, by omega, rd_le s k hk⟩
        rw [← HX.out]
        have HB : Hid (X = 0 + (dI (bodyOf s.data.toList)).length ∧ s.extract k X = ⟨((dI (bodyOf s.data.toList)).dropWhile isZ).toArray⟩) := pd_first s 0 k X HS.out hk0 HZ.out HE.out HX.out
        clear hpw hoc hd1 H30 HX HE HZ
        obtain ⟨a0, ha0⟩ := hpw1.ca 0 (by omega)
        obtain ⟨a1, ha1⟩ := hpw1.ca 1 (by omega)
        obtain ⟨a2, ha2⟩ := hpw1.ca 2 (by omega)
        obtain ⟨a3, ha3⟩ := hpw1.ca 3 (by omega)
        have fa0 := hpw1.fa 0
        have fa1 := hpw1.fa 1
        have fa2 := hpw1.fa 2
        have fa3 := hpw1.fa 3
        have b0 := hpw1.b0
        have b1 := hpw1.b1
        have b2 := hpw1.b2
        obtain ⟨d1, b3⟩ := hpw1.b3
        have fb1 := hpw1.fb 1
        by_cases hA : X = 0
        · have HP : Hid (pdB (bodyOf s.data.toList) p = none) := pdB_A (by have := HB.out.1; omega)
          have hA1 : ((X : Int) == 0) = true := by rw [hA]; rfl
          clear hA
          go_wp2
          exact bodyPost_ret (v := .tuple #[.agg #[.bool false, .string ⟨#[]⟩, .string ⟨#[]⟩, .int .i64 0], .bool false]) (by simp [results, Try.results29, go_sem, ha0, ha1, ha2, ha3]) rfl ⟨_, rfl, Or.inl ⟨HP.out, rfl⟩, below4 hpw1.below _ _ _ _⟩
        · have hA1 : ((X : Int) == 0) = false := by rw [beq_eq_false_iff_ne]; omega
          have HI : Hid ((dI (bodyOf s.data.toList)).length ≠ 0) := by have := HB.out.1; unfold Hid; omega
          have HR : Hid (dR (bodyOf s.data.toList) = s.data.toList.drop X) := pd_rest s 0 X HS.out HB.out.1
          have HW : Hid (s.extract k X = ⟨((dI (bodyOf s.data.toList)).dropWhile isZ).toArray⟩) := HB.out.2
          by_cases hN : X = s.size
          · have HP : Hid (pdB (bodyOf s.data.toList) p = some ((dI (bodyOf s.data.toList)).dropWhile isZ, [])) := pdB_B HI.out (by rw [HR.out, hN]; simp)
            have hN1 : ((X : Int) == (s.size : Int)) = true := by rw [hN]; simp
            clear hN hA
            go_wp2
            exact bodyPost_ret (v := .tuple #[.agg #[.bool false, .string (s.extract k X), .string ⟨#[]⟩, .int .i64 d1], .bool true]) (by simp [results, Try.results29, go_sem, ha0, ha1, ha2, ha3]) rfl ⟨_, rfl, Or.inr ⟨_, _, d1, HP.out, by rw [HW.out, HN.out]⟩, below4 (hpw1.below.setCell (by simp) _) _ _ _ _⟩
          · exfalso; omega
      · go_wp2_with fail
        refine Calls.mono H30.out ?_
        rintro e w1 ⟨rfl, hd1, hoc⟩
        have hpw1 := hpw.only hoc hd1
        obtain ⟨X, HX, hX1, hX2⟩ : ∃ X : Nat, Hid (X = k + (dI (s.data.toList.drop k)).length) ∧ k ≤ X ∧ X ≤ s.size := ⟨_, rfl, by omega, rd_le s k hk⟩
        rw [← HX.out]
        have HB : Hid (X = 0 + (dI (bodyOf s.data.toList)).length ∧ s.extract k X = ⟨((dI (bodyOf s.data.toList)).dropWhile isZ).toArray⟩) := pd_first s 0 k X HS.out hk0 HZ.out HE.out HX.out
        clear hpw hoc hd1 H30 HX HE HZ
        obtain ⟨a0, ha0⟩ := hpw1.ca 0 (by omega)
        obtain ⟨a1, ha1⟩ := hpw1.ca 1 (by omega)
        obtain ⟨a2, ha2⟩ := hpw1.ca 2 (by omega)
        obtain ⟨a3, ha3⟩ := hpw1.ca 3 (by omega)
        have fa0 := hpw1.fa 0
        have fa1 := hpw1.fa 1
        have fa2 := hpw1.fa 2
        have fa3 := hpw1.fa 3
        have b0 := hpw1.b0
        have b1 := hpw1.b1
        have b2 := hpw1.b2
        obtain ⟨d1, b3⟩ := hpw1.b3
        have fb1 := hpw1.fb 1
        by_cases hA : X = 0
        · have HP : Hid (pdB (bodyOf s.data.toList) p = none) := pdB_A (by have := HB.out.1; omega)
          have hA1 : ((X : Int) == 0) = true := by rw [hA]; rfl
          clear hA
          go_wp2
          exact bodyPost_ret (v := .tuple #[.agg #[.bool false, .string ⟨#[]⟩, .string ⟨#[]⟩, .int .i64 0], .bool false]) (by simp [results, Try.results29, go_sem, ha0, ha1, ha2, ha3]) rfl ⟨_, rfl, Or.inl ⟨HP.out, rfl⟩, below4 hpw1.below _ _ _ _⟩
        · have hA1 : ((X : Int) == 0) = false := by rw [beq_eq_false_iff_ne]; omega
          have HI : Hid ((dI (bodyOf s.data.toList)).length ≠ 0) := by have := HB.out.1; unfold Hid; omega
          have HR : Hid (dR (bodyOf s.data.toList) = s.data.toList.drop X) := pd_rest s 0 X HS.out HB.out.1
          have HW : Hid (s.extract k X = ⟨((dI (bodyOf s.data.toList)).dropWhile isZ).toArray⟩) := HB.out.2
          by_cases hN : X = s.size
          · have HP : Hid (pdB (bodyOf s.data.toList) p = some ((dI (bodyOf s.data.toList)).dropWhile isZ, [])) := pdB_B HI.out (by rw [HR.out, hN]; simp)
            have hN1 : ((X : Int) == (s.size : Int)) = true := by rw [hN]; simp
            clear hN hA
            go_wp2
            exact bodyPost_ret (v := .tuple #[.agg #[.bool false, .string (s.extract k X), .string ⟨#[]⟩, .int .i64 d1], .bool true]) (by simp [results, Try.results29, go_sem, ha0, ha1, ha2, ha3]) rfl ⟨_, rfl, Or.inr ⟨_, _, d1, HP.out, by rw [HW.out, HN.out]⟩, below4 (hpw1.below.setCell (by simp) _) _ _ _ _⟩
          · have hN1 : ((X : Int) == (s.size : Int)) = false := by rw [beq_eq_false_iff_ne]; omega
            have hXN : X < s.size := by omega
            have HC : Hid (dR (bodyOf s.data.toList) = s[X] :: s.data.toList.drop (X + 1)) := by
              have := HR.out
              rw [List.drop_eq_getElem_cons (by simpa using hXN)] at this
              exact this
            by_cases h46 : s[X] = 46
            · have h46b : ((s[X].toNat : Int) != 46) = false := by rw [h46]; rfl
              have HD : Hid (dR (bodyOf s.data.toList) = 46 :: s.data.toList.drop (X + 1)) := by rw [← h46]; exact HC.out
              have hpw2 := hpw1.set1 (s.extract k X)
              obtain ⟨d2, hd2⟩ := hpw2.b3
              have H30 : Hid (Calls Try.prog 30 #[.pointer (some ⟨w.heap.size + 1, 0, none⟩), .string s, .int .i64 ((X : Int) + 1)] (w1.setCell ⟨w.heap.size + 1, 1, none⟩ (.string (s.extract k X))) fun e w' =>
                  e = .returned (.int .i64 ((X + 1 + (dI (s.data.toList.drop (X + 1))).length : Nat) : Int)) ∧ (∃ d : Int, w'.cell? ⟨w.heap.size + 1, 3, none⟩ = some (.int .i64 d)) ∧ OnlyCell (w.heap.size + 1) (w1.setCell ⟨w.heap.size + 1, 1, none⟩ (.string (s.extract k X))) w') := readDigits_any (w.heap.size + 1) (X + 1) s d2 _ hs (by omega) hd2 (hpw2.fb 3)
              clear h46 hN hA HC hd2
              go_wp2_with fail
              refine Calls.mono H30.out ?_
              rintro e w2 ⟨rfl, hd3, hoc⟩
              have hpw3 := hpw2.only hoc hd3
              clear H30 hd3 hoc hpw2 ha0 ha1 ha2 ha3 fa0 fa1 fa2 fa3 b0 b1 b2 b3 fb1 hpw1
              obtain ⟨Y, HY, hY1, hY2⟩ : ∃ Y : Nat, Hid (Y = X + 1 + (dI (s.data.toList.drop (X + 1))).length) ∧ X + 1 ≤ Y ∧ Y ≤ s.size := ⟨_, rfl, by omega, rd_le s (X + 1) (by omega)⟩
              rw [← HY.out]
              obtain ⟨ha0, fa0⟩ := (⟨hpw3.ca 0 (by omega), hpw3.fa 0⟩ : (∃ v, w2.cell? ⟨w.heap.size, 0, none⟩ = some v) ∧ _)
              obtain ⟨a0, ha0⟩ := ha0
              obtain ⟨a1, ha1⟩ := hpw3.ca 1 (by omega)
              obtain ⟨a2, ha2⟩ := hpw3.ca 2 (by omega)
              obtain ⟨a3, ha3⟩ := hpw3.ca 3 (by omega)
              have fa1 := hpw3.fa 1
              have fa2 := hpw3.fa 2
              have fa3 := hpw3.fa 3
              have b0 := hpw3.b0
              have b1 := hpw3.b1
              have b2 := hpw3.b2
              obtain ⟨d4, b3⟩ := hpw3.b3
              have fb2 := hpw3.fb 2
              have HF : Hid (s.extract (X + 1) Y = ⟨(dI (s.data.toList.drop (X + 1))).toArray⟩) := pd_frac s (X + 1) Y HY.out
              have HR2 : Hid (dR (s.data.toList.drop (X + 1)) = s.data.toList.drop Y) := by rw [← drop_dI, List.drop_drop, HY.out]; rfl
              obtain ⟨F, hF⟩ : ∃ F, s.extract (X + 1) Y = F := ⟨_, rfl⟩
              have HFs : Hid (F.size = (dI (s.data.toList.drop (X + 1))).length) := by rw [← hF, HF.out]; exact size_of_list _
              have HFd : Hid (F = ⟨(dI (s.data.toList.drop (X + 1))).toArray⟩) := by rw [← hF]; exact HF.out
              clear HF
              by_cases hYN : Y < s.size
              · have HP : Hid (pdB (bodyOf s.data.toList) p = none) := pdB_D HI.out HD.out (Or.inl (by rw [HR2.out]; exact drop_ne _ _ (by simpa using hYN)))
                go_wp2
                exact bodyPost_ret (v := .tuple #[.agg #[.bool false, .string ⟨#[]⟩, .string ⟨#[]⟩, .int .i64 0], .bool false]) (by simp [results, Try.results29, go_sem, ha0, ha1, ha2, ha3]) rfl ⟨_, rfl, Or.inl ⟨HP.out, rfl⟩, below4 (hpw3.below.setCell (by simp) _) _ _ _ _⟩
              · have hYN1 : decide ((Y : Int) < (s.size : Int)) = false := by simp; omega
                have hYN2 : s.size ≤ Y := by omega
                by_cases hF0 : F.size = 0
                · have HP : Hid (pdB (bodyOf s.data.toList) p = none) := pdB_D HI.out HD.out (Or.inr (Or.inl (List.eq_nil_of_length_eq_zero (by rw [← HFs.out]; exact hF0))))
                  have hF1 : (F.toList == []) = true := list_eq F hF0
                  clear hF0 hYN
                  go_wp2
                  exact bodyPost_ret (v := .tuple #[.agg #[.bool false, .string ⟨#[]⟩, .string ⟨#[]⟩, .int .i64 0], .bool false]) (by simp [results, Try.results29, go_sem, ha0, ha1, ha2, ha3]) rfl ⟨_, rfl, Or.inl ⟨HP.out, rfl⟩, below4 (hpw3.below.setCell (by simp) _) _ _ _ _⟩
                · have hF1 : (F.toList == []) = false := list_ne F hF0
                  have HE2 : Hid (dR (s.data.toList.drop (X + 1)) = []) := by rw [HR2.out]; apply List.drop_eq_nil_of_le; simp; omega
                  have HF2 : Hid (dI (s.data.toList.drop (X + 1)) ≠ []) := by intro e; apply hF0; rw [HFs.out, e]; rfl
                  by_cases hp : p < (F.size : Int)
                  · have HP : Hid (pdB (bodyOf s.data.toList) p = none) := pdB_D HI.out HD.out (Or.inr (Or.inr (by rw [← HFs.out]; exact hp)))
                    clear hF0 hYN
                    go_wp2
                    exact bodyPost_ret (v := .tuple #[.agg #[.bool false, .string ⟨#[]⟩, .string ⟨#[]⟩, .int .i64 0], .bool false]) (by simp [results, Try.results29, go_sem, ha0, ha1, ha2, ha3]) rfl ⟨_, rfl, Or.inl ⟨HP.out, rfl⟩, below4 (hpw3.below.setCell (by simp) _) _ _ _ _⟩
                  · have HP : Hid (pdB (bodyOf s.data.toList) p = some ((dI (bodyOf s.data.toList)).dropWhile isZ, dI (s.data.toList.drop (X + 1)))) := pdB_E HI.out HD.out (by
                      rintro (h | h | h)
                      · exact h HE2.out
                      · exact HF2.out h
                      · rw [← HFs.out] at h; exact hp h)
                    have hp3 : (F.size : Int) ≤ p := by omega
                    clear hF0 hYN hp
                    go_wp2
                    exact bodyPost_ret (v := .tuple #[.agg #[.bool false, .string (s.extract k X), .string F, .int .i64 d4], .bool true]) (by simp [results, Try.results29, go_sem, ha0, ha1, ha2, ha3]) rfl ⟨_, rfl, Or.inr ⟨_, _, d4, HP.out, by rw [HW.out, HN.out, HFd.out]⟩, below4 (hpw3.below.setCell (by simp) _) _ _ _ _⟩
            · have HP : Hid (pdB (bodyOf s.data.toList) p = none) := pdB_C HI.out HC.out h46
              have h46b : ((s[X].toNat : Int) != 46) = true := by
                rw [bne_iff_ne]; intro e; apply h46; apply UInt8.toNat_inj.1; show s[X].toNat = 46; omega
              clear h46 hN hA HC
              go_wp2
              exact bodyPost_ret (v := .tuple #[.agg #[.bool false, .string ⟨#[]⟩, .string ⟨#[]⟩, .int .i64 0], .bool false]) (by simp [results, Try.results29, go_sem, ha0, ha1, ha2, ha3]) rfl ⟨_, rfl, Or.inl ⟨HP.out, rfl⟩, below4 (hpw1.below.setCell (by simp) _) _ _ _ _⟩

set_option maxHeartbeats 1600000 in
theorem pd_empty (s : ByteArray) (p : Int) (w : World) (hs : s.size ≤ 1048576) (hp1 : -2147483648 ≤ p) (hp2 : p ≤ 2147483647) (h0 : s.size ≤ 0) (h1 : decide ((0 : Int) < (s.size : Int)) = false) (HS : Hid (startOf s.data.toList = 0)) (HN : Hid (negOf s.data.toList = false)) (hst : 0 ≤ s.size) :
    Calls Try.prog 29 #[.string s, .int .i32 p] w fun e w' => ∃ v, e = .returned v ∧ PDres s p v ∧ Below w.heap.size w w' := by
  go_enter Try.func29, Try.ntmps29
  go_wp2
  go_loopw [7] (fun iv wr => ∃ k : Nat, 0 ≤ k ∧ k ≤ s.size ∧ iv = .int .i64 (k : Int) ∧ Hid (∀ j, 0 ≤ j → j < k → s.data.toList[j]? = some 48) ∧ PW w false ⟨#[]⟩ ⟨#[]⟩ wr)
    (fun iv _ => s.size - (intOf iv).toNat)
  case atStart => exact ⟨0, by omega, by omega, rfl, fun j h1 h2 => by omega, PW.start w false⟩
  case round =>
    obtain ⟨k, hk0, hk, rfl, HZ, hpw⟩ := hrel
    by_cases hlt : k < s.size ∧ s.data.toList[k]? = some 48
    · exfalso; omega
    · obtain ⟨d0, hb3⟩ := hpw.b3
      have hfb := hpw.fb 3
      have H30 := hide (readDigits_any (w.heap.size + 1) k s d0 wr hs hk hb3 hfb)
      have HE := hide hlt
      have htest : (s.size ≤ k ∧ decide ((k : Int) < (s.size : Int)) = false) ∨ ∃ h : k < s.size, ((s[k].toNat : Int) == 48) = false := by
        by_cases hl : k < s.size
        · refine Or.inr ⟨hl, ?_⟩
          rw [beq_eq_false_iff_ne]; intro e; apply hlt; refine ⟨hl, ?_⟩
          rw [byte_at? s k hl]; congr 1; apply UInt8.toNat_inj.1; show s[k].toNat = 48; omega
        · exact Or.inl ⟨by omega, by simp; omega⟩
      clear hlt hb3 hfb
      rcases htest with ⟨hl, ht⟩ | ⟨hl, ht⟩
      · go_wp2_with fail
        refine Calls.mono H30.out ?_
        rintro e w1 ⟨rfl, hd1, hoc⟩
        have hpw1 := hpw.only hoc hd1
        obtain ⟨X, HX, hX1, hX2⟩ : ∃ X : Nat, Hid (X = k + (dI (s.data.toList.drop k)).length) ∧ k ≤ X ∧ X ≤ s.size := ⟨_, rfl, by omega, rd_le s k hk⟩
        rw [← HX.out]
        have HB : Hid (X = 0 + (dI (bodyOf s.data.toList)).length ∧ s.extract k X = ⟨((dI (bodyOf s.data.toList)).dropWhile isZ).toArray⟩) := pd_first s 0 k X HS.out hk0 HZ.out HE.out HX.out
        clear hpw hoc hd1 H30 HX HE HZ
        obtain ⟨a0, ha0⟩ := hpw1.ca 0 (by omega)
        obtain ⟨a1, ha1⟩ := hpw1.ca 1 (by omega)
        obtain ⟨a2, ha2⟩ := hpw1.ca 2 (by omega)
        obtain ⟨a3, ha3⟩ := hpw1.ca 3 (by omega)
        have fa0 := hpw1.fa 0
        have fa1 := hpw1.fa 1
        have fa2 := hpw1.fa 2
        have fa3 := hpw1.fa 3
        have b0 := hpw1.b0
        have b1 := hpw1.b1
        have b2 := hpw1.b2
        obtain ⟨d1, b3⟩ := hpw1.b3
        have fb1 := hpw1.fb 1
        by_cases hA : X = 0
        · have HP : Hid (pdB (bodyOf s.data.toList) p = none) := pdB_A (by have := HB.out.1; omega)
          have hA1 : ((X : Int) == 0) = true := by rw [hA]; rfl
          clear hA
          go_wp2
          exact bodyPost_ret (v := .tuple #[.agg #[.bool false, .string ⟨#[]⟩, .string ⟨#[]⟩, .int .i64 0], .bool false]) (by simp [results, Try.results29, go_sem, ha0, ha1, ha2, ha3]) rfl ⟨_, rfl, Or.inl ⟨HP.out, rfl⟩, below4 hpw1.below _ _ _ _⟩
        · exfalso; omega
      · exfalso; omega

theorem neg_iff (s : ByteArray) (h0 : 0 < s.size) : (negOf s.data.toList = true ↔ s[0] = 45) := by
  have e : s.data.toList[0]? = some s[0] := byte_at? s 0 h0
  unfold negOf
  rw [List.head?_eq_getElem?, e]
  simp

theorem plainDecimal_any (s : ByteArray) (p : Int) (w : World) (hs : s.size ≤ 1048576) (hp1 : -2147483648 ≤ p) (hp2 : p ≤ 2147483647) :
    Calls Try.prog 29 #[.string s, .int .i32 p] w fun e w' => ∃ v, e = .returned v ∧ PDres s p v ∧ Below w.heap.size w w' := by
  by_cases h0 : 0 < s.size
  · by_cases hn : negOf s.data.toList = true
    · exact pd_neg s p w hs hp1 hp2 h0 (by rw [(neg_iff s h0).1 hn]; rfl) (by unfold startOf; rw [hn]; rfl) hn (by omega)
    · have hn' : negOf s.data.toList = false := by simpa using hn
      refine pd_pos s p w hs hp1 hp2 h0 ?_ (by unfold startOf; rw [hn']; rfl) hn' (by omega)
      rw [beq_eq_false_iff_ne]; intro e; apply hn; rw [neg_iff s h0]; apply UInt8.toNat_inj.1; show s[0].toNat = 45; omega
  · have hn' : negOf s.data.toList = false := by
      have e : s.data.toList.length = s.size := by simp
      rw [List.eq_nil_of_length_eq_zero (show s.data.toList.length = 0 by omega)]; rfl
    exact pd_empty s p w hs hp1 hp2 (by omega) (by rw [decide_eq_false_iff_not]; omega) (by unfold startOf; rw [hn']; rfl) hn' (by omega)
end Go.Proofs.Qxb6001398a
