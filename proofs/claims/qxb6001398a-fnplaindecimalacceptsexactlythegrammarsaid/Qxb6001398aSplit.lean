import Derived.Test.Qxb6001398aZPlain
namespace Go.Proofs.Qxb6001398a
open Go.RowKit
open Plain
set_option linter.unusedVariables false

theorem ret5 {a a' : Bool} {b b' c c' : ByteArray} {d d' e e' : Bool} (h1 : a = a') (h2 : b = b') (h3 : c = c') (h4 : d = d') (h5 : e = e') :
    Ending.returned (.tuple #[.bool a, .string b, .string c, .bool d, .bool e]) = .returned (.tuple #[.bool a', .string b', .string c', .bool d', .bool e']) := by
  rw [h1, h2, h3, h4, h5]

theorem adig_no (s : ByteArray) (w : World) (hs : s.size ≤ maxLen) (h : allDig s.data.toList = false) :
    Calls Try.prog 15 #[.string s] w fun e w' => e = .returned (.bool false) ∧ w' = w := by
  have := allDigits_any s w hs; rw [h] at this; exact this
theorem adig_yes (s : ByteArray) (w : World) (hs : s.size ≤ maxLen) (h : allDig s.data.toList = true) :
    Calls Try.prog 15 #[.string s] w fun e w' => e = .returned (.bool true) ∧ w' = w := by
  have := allDigits_any s w hs; rw [h] at this; exact this

/-- No dot in the body. -/
theorem sp_none (B : ByteArray) (b : List UInt8) (hB : B.data.toList = b) (h : ∀ i, i < B.size → ∀ x, b[i]? = some x → notDot x = true) :
    (⟨(sInt b).toArray⟩ : ByteArray) = B ∧ (⟨(sFrac b).toArray⟩ : ByteArray) = ⟨#[]⟩ ∧ sDot b = false ∧ sOk b = (!b.isEmpty && allDig b) := by
  have hl : b.length = B.size := by rw [← hB]; simp
  obtain ⟨e1, e2⟩ := while_pos notDot b b.length (Nat.le_refl _) (fun i x hi hx => h i (by omega) x hx) (Or.inl rfl)
  rw [List.take_length] at e1
  rw [List.drop_length] at e2
  have f1 : sInt b = b := e1
  have f2 : sFrac b = [] := by unfold sFrac; rw [e2]; rfl
  have f3 : sDot b = false := by unfold sDot; rw [e2]; rfl
  refine ⟨by rw [f1, ← hB], by rw [f2], f3, ?_⟩
  unfold sOk
  rw [f1, f3]; simp

/-- The first dot at j. -/
theorem sp_some (B : ByteArray) (b : List UInt8) (j : Nat) (hB : B.data.toList = b) (hj : j < B.size) (h : ∀ i, i < j → ∀ x, b[i]? = some x → notDot x = true) (h46 : B[j] = 46) :
    B.extract 0 j = ⟨(sInt b).toArray⟩ ∧ B.extract (j + 1) B.size = ⟨(sFrac b).toArray⟩ ∧ sDot b = true := by
  have hl : b.length = B.size := by rw [← hB]; simp
  have hx : b[j]? = some 46 := by rw [← hB, byte_at? B j hj, h46]
  obtain ⟨e1, e2⟩ := while_pos notDot b j (by omega) (fun i x hi hx => h i hi x hx) (Or.inr ⟨46, hx, rfl⟩)
  have e3 : b.drop j = 46 :: b.drop (j + 1) := by
    rw [List.drop_eq_getElem_cons (by omega)]
    congr 1
    rw [List.getElem?_eq_getElem (by omega)] at hx
    injection hx
  rw [e3] at e2
  have f1 : sInt b = b.take j := e1
  have f2 : sFrac b = b.drop (j + 1) := by unfold sFrac; rw [e2]; rfl
  have f3 : sDot b = true := by unfold sDot; rw [e2]; rfl
  refine ⟨?_, ?_, f3⟩
  · rw [f1, extract_list, hB]; rfl
  · rw [f2, extract_list, hB, List.take_of_length_le (by rw [List.length_drop]; omega)]

theorem isEmpty_size (F : ByteArray) (l : List UInt8) (h : F = ⟨l.toArray⟩) : (F.size = 0 → l.isEmpty = true) ∧ (0 < F.size → l.isEmpty = false) := by
  subst h
  rw [size_of_list]
  cases l with
  | nil => simp
  | cons a t => simp

theorem ext_max (s : ByteArray) (a b : Nat) (h : s.size ≤ 1048576) : (s.extract a b).size ≤ maxLen := by
  rw [ByteArray.size_extract]; unfold maxLen; omega

set_option maxHeartbeats 1600000 in
theorem sp_neg (s : ByteArray) (w : World) (hs : s.size ≤ 1048576) (h0 : 0 < s.size) (h1 : ((s[0].toNat : Int) == 45) = true) (HN : Hid (negOf s.data.toList = true)) :
    Calls Try.prog 24 #[.string s] w fun e w' => e = .returned (.tuple #[.bool (negOf s.data.toList), .string ⟨(sInt (bodyOf s.data.toList)).toArray⟩, .string ⟨(sFrac (bodyOf s.data.toList)).toArray⟩, .bool (sDot (bodyOf s.data.toList)), .bool (sOk (bodyOf s.data.toList))]) ∧ w' = w := by
  obtain ⟨b, Hb⟩ := name_it (bodyOf s.data.toList)
  rw [← Hb.out]
  obtain ⟨bd, hbd⟩ : ∃ bd, s.extract 1 s.size = bd := ⟨_, rfl⟩
  have HB : Hid (bd.data.toList = b) := by
    rw [Hb.out, ← hbd, extract_list]; unfold bodyOf startOf; rw [HN.out]
    show (s.data.toList.drop 1).take (s.size - 1) = _
    rw [List.take_of_length_le (by simp)]; rfl
  have hbs : bd.size ≤ 1048576 := by rw [← hbd, ByteArray.size_extract]; omega
  go_enter Try.func24, Try.ntmps24
  go_wp2
  go_loop [9, 10] (fun dv jv => ∃ j : Nat, j ≤ bd.size ∧ jv = .int .i64 (j : Int) ∧ dv = .int .i64 (-1) ∧ Hid (∀ i, i < j → ∀ x, b[i]? = some x → notDot x = true)) (fun _ jv => bd.size - (intOf jv).toNat)
  case atStart => exact ⟨0, Nat.zero_le _, rfl, rfl, fun i hi => by omega⟩
  case round =>
    obtain ⟨j, hj, rfl, rfl, HZ⟩ := hrel
    by_cases hlt : j < bd.size
    · by_cases h46 : bd[j] = 46
      · have h46b : ((bd[j].toNat : Int) == 46) = true := by rw [h46]; rfl
        obtain ⟨q1, q2, q3⟩ := sp_some bd b j HB.out hlt HZ.out h46
        obtain ⟨I, hI⟩ : ∃ I, bd.extract 0 j = I := ⟨_, rfl⟩
        obtain ⟨F, hF⟩ : ∃ F, bd.extract (j + 1) bd.size = F := ⟨_, rfl⟩
        rw [hI] at q1
        rw [hF] at q2
        have Q1 := hide q1
        have Q2 := hide q2
        have Q3 := hide q3
        have eI : Hid (I.data.toList = sInt b) := by rw [q1]; rfl
        have eF : Hid (F.data.toList = sFrac b) := by rw [q2]; rfl
        have mI : Hid (I.size ≤ maxLen) := by rw [← hI]; exact ext_max _ _ _ (by omega)
        have mF : Hid (F.size ≤ maxLen) := by rw [← hF]; exact ext_max _ _ _ (by omega)
        have HEI := hide (isEmpty_size I _ q1)
        have HEF := hide (isEmpty_size F _ q2)
        clear q1 q2 q3 h46 HZ
        by_cases hI0 : 0 < I.size
        · cases hIa : allDig I.data.toList with
          | false =>
            have HK : Hid (sOk b = false) := by show sOk b = false; unfold sOk; rw [← eI.out, hIa]; simp
            have HIa := hide hIa
            clear hIa
            go_wp2_with (go_at_call 15; refine (adig_no _ _ mI.out HIa.out).mono ?_; rintro e w' ⟨rfl, rfl⟩)
            refine bodyPost_ret (results_tmp5 rfl _ _ _) rfl ?_
            exact ⟨ret5 HN.out.symm Q1.out Q2.out Q3.out.symm HK.out.symm, rfl⟩
          | true =>
            have HIa := hide hIa
            clear hIa
            by_cases hF0 : 0 < F.size
            · cases hFa : allDig F.data.toList with
              | false =>
                have HK : Hid (sOk b = false) := by show sOk b = false; unfold sOk; rw [Q3.out, ← eF.out, hFa]; simp
                have HFa := hide hFa
                clear hFa
                go_wp2_with fail
                refine (adig_yes _ _ mI.out HIa.out).mono ?_
                rintro e w' ⟨rfl, rfl⟩
                go_wp2_with fail
                refine (adig_no _ _ mF.out HFa.out).mono ?_
                rintro e w' ⟨rfl, rfl⟩
                go_wp2
                refine bodyPost_ret (results_tmp5 rfl _ _ _) rfl ?_
                exact ⟨ret5 HN.out.symm Q1.out Q2.out Q3.out.symm HK.out.symm, rfl⟩
              | true =>
                have HK : Hid (sOk b = true) := by show sOk b = true; unfold sOk; rw [Q3.out, ← eF.out, hFa, ← eI.out, HIa.out, eF.out, eI.out, HEI.out.2 hI0, HEF.out.2 hF0]; rfl
                have HFa := hide hFa
                clear hFa
                go_wp2_with fail
                refine (adig_yes _ _ mI.out HIa.out).mono ?_
                rintro e w' ⟨rfl, rfl⟩
                go_wp2_with fail
                refine (adig_yes _ _ mF.out HFa.out).mono ?_
                rintro e w' ⟨rfl, rfl⟩
                go_wp2
                refine bodyPost_ret (results_tmp5 rfl _ _ _) rfl ?_
                exact ⟨ret5 HN.out.symm Q1.out Q2.out Q3.out.symm HK.out.symm, rfl⟩
            · have HK : Hid (sOk b = false) := by show sOk b = false; unfold sOk; rw [Q3.out, HEF.out.1 (by omega)]; simp
              have hF1 : F.size ≤ 0 := by omega
              have hF2 : decide ((0 : Int) < (F.size : Int)) = false := by rw [decide_eq_false_iff_not]; omega
              clear hF0
              go_wp2_with (go_at_call 15; refine (adig_yes _ _ mI.out HIa.out).mono ?_; rintro e w' ⟨rfl, rfl⟩)
              refine bodyPost_ret (results_tmp5 rfl _ _ _) rfl ?_
              exact ⟨ret5 HN.out.symm Q1.out Q2.out Q3.out.symm HK.out.symm, rfl⟩
        · have HK : Hid (sOk b = false) := by show sOk b = false; unfold sOk; rw [HEI.out.1 (by omega)]; rfl
          have hI1 : I.size ≤ 0 := by omega
          have hI2 : decide ((0 : Int) < (I.size : Int)) = false := by rw [decide_eq_false_iff_not]; omega
          clear hI0
          go_wp2
          refine bodyPost_ret (results_tmp5 rfl _ _ _) rfl ?_
          exact ⟨ret5 HN.out.symm Q1.out Q2.out Q3.out.symm HK.out.symm, rfl⟩
      · have h46b : ((bd[j].toNat : Int) == 46) = false := by
          rw [beq_eq_false_iff_ne]; intro e; apply h46; apply UInt8.toNat_inj.1; show bd[j].toNat = 46; omega
        have HZ' : Hid (∀ i, i < j + 1 → ∀ x, b[i]? = some x → notDot x = true) := by
          intro i hi x hx
          rcases Nat.lt_or_ge i j with h | h
          · exact HZ.out i h x hx
          · obtain rfl : i = j := by omega
            rw [← HB.out, byte_at? bd i hlt] at hx
            injection hx with e
            rw [← e]; unfold notDot; simpa using h46
        clear h46 HZ
        go_wp2
        go_round
        case rel => exact ⟨j + 1, by omega, by go_num, rfl, HZ'⟩
        case measure => simp [intOf]; omega
    · obtain rfl : j = bd.size := by omega
      obtain ⟨q1, q2, q3, q4⟩ := sp_none bd b HB.out HZ.out
      have HE0 := hide (isEmpty_size bd b (by rw [← HB.out]))
      have Q1 := hide q1
      have Q2 := hide q2
      have Q3 := hide q3
      have Q4 := hide q4
      clear q1 q2 q3 q4 HZ hlt
      by_cases h0b : 0 < bd.size
      · have mB : Hid (bd.size ≤ maxLen) := by unfold Hid maxLen; omega
        cases hBa : allDig bd.data.toList with
        | false =>
          have HK : Hid (sOk b = false) := by show sOk b = false; rw [Q4.out, ← HB.out, hBa]; simp
          have HBa := hide hBa
          clear hBa
          go_wp2_with (go_at_call 15; refine (adig_no _ _ mB.out HBa.out).mono ?_; rintro e w' ⟨rfl, rfl⟩)
          refine bodyPost_ret (results_tmp5 rfl _ _ _) rfl ?_
          exact ⟨ret5 HN.out.symm Q1.out.symm Q2.out.symm Q3.out.symm HK.out.symm, rfl⟩
        | true =>
          have HK : Hid (sOk b = true) := by show sOk b = true; rw [Q4.out, HE0.out.2 h0b, ← HB.out, hBa]; rfl
          have HBa := hide hBa
          clear hBa
          go_wp2_with (go_at_call 15; refine (adig_yes _ _ mB.out HBa.out).mono ?_; rintro e w' ⟨rfl, rfl⟩)
          refine bodyPost_ret (results_tmp5 rfl _ _ _) rfl ?_
          exact ⟨ret5 HN.out.symm Q1.out.symm Q2.out.symm Q3.out.symm HK.out.symm, rfl⟩
      · have HK : Hid (sOk b = false) := by show sOk b = false; rw [Q4.out, HE0.out.1 (by omega)]; rfl
        have h0c : bd.size ≤ 0 := by omega
        have h0d : decide ((0 : Int) < (bd.size : Int)) = false := by rw [decide_eq_false_iff_not]; omega
        clear h0b
        go_wp2
        refine bodyPost_ret (results_tmp5 rfl _ _ _) rfl ?_
        exact ⟨ret5 HN.out.symm Q1.out.symm Q2.out.symm Q3.out.symm HK.out.symm, rfl⟩

set_option maxHeartbeats 1600000 in
theorem sp_pos (s : ByteArray) (w : World) (hs : s.size ≤ 1048576) (h0 : 0 < s.size) (h1 : ((s[0].toNat : Int) == 45) = false) (HN : Hid (negOf s.data.toList = false)) :
    Calls Try.prog 24 #[.string s] w fun e w' => e = .returned (.tuple #[.bool (negOf s.data.toList), .string ⟨(sInt (bodyOf s.data.toList)).toArray⟩, .string ⟨(sFrac (bodyOf s.data.toList)).toArray⟩, .bool (sDot (bodyOf s.data.toList)), .bool (sOk (bodyOf s.data.toList))]) ∧ w' = w := by
  obtain ⟨b, Hb⟩ := name_it (bodyOf s.data.toList)
  rw [← Hb.out]
  have HB : Hid (s.data.toList = b) := by
    rw [Hb.out]; unfold bodyOf startOf; rw [HN.out]; rfl
  go_enter Try.func24, Try.ntmps24
  go_wp2
  go_loop [9, 10] (fun dv jv => ∃ j : Nat, j ≤ s.size ∧ jv = .int .i64 (j : Int) ∧ dv = .int .i64 (-1) ∧ Hid (∀ i, i < j → ∀ x, b[i]? = some x → notDot x = true)) (fun _ jv => s.size - (intOf jv).toNat)
  case atStart => exact ⟨0, Nat.zero_le _, rfl, rfl, fun i hi => by omega⟩
  case round =>
    obtain ⟨j, hj, rfl, rfl, HZ⟩ := hrel
    by_cases hlt : j < s.size
    · by_cases h46 : s[j] = 46
      · have h46b : ((s[j].toNat : Int) == 46) = true := by rw [h46]; rfl
        obtain ⟨q1, q2, q3⟩ := sp_some s b j HB.out hlt HZ.out h46
        obtain ⟨I, hI⟩ : ∃ I, s.extract 0 j = I := ⟨_, rfl⟩
        obtain ⟨F, hF⟩ : ∃ F, s.extract (j + 1) s.size = F := ⟨_, rfl⟩
        rw [hI] at q1
        rw [hF] at q2
        have Q1 := hide q1
        have Q2 := hide q2
        have Q3 := hide q3
        have eI : Hid (I.data.toList = sInt b) := by rw [q1]; rfl
        have eF : Hid (F.data.toList = sFrac b) := by rw [q2]; rfl
        have mI : Hid (I.size ≤ maxLen) := by rw [← hI]; exact ext_max _ _ _ (by omega)
        have mF : Hid (F.size ≤ maxLen) := by rw [← hF]; exact ext_max _ _ _ (by omega)
        have HEI := hide (isEmpty_size I _ q1)
        have HEF := hide (isEmpty_size F _ q2)
        clear q1 q2 q3 h46 HZ
        by_cases hI0 : 0 < I.size
        · cases hIa : allDig I.data.toList with
          | false =>
            have HK : Hid (sOk b = false) := by show sOk b = false; unfold sOk; rw [← eI.out, hIa]; simp
            have HIa := hide hIa
            clear hIa
            go_wp2_with (go_at_call 15; refine (adig_no _ _ mI.out HIa.out).mono ?_; rintro e w' ⟨rfl, rfl⟩)
            refine bodyPost_ret (results_tmp5 rfl _ _ _) rfl ?_
            exact ⟨ret5 HN.out.symm Q1.out Q2.out Q3.out.symm HK.out.symm, rfl⟩
          | true =>
            have HIa := hide hIa
            clear hIa
            by_cases hF0 : 0 < F.size
            · cases hFa : allDig F.data.toList with
              | false =>
                have HK : Hid (sOk b = false) := by show sOk b = false; unfold sOk; rw [Q3.out, ← eF.out, hFa]; simp
                have HFa := hide hFa
                clear hFa
                go_wp2_with fail
                refine (adig_yes _ _ mI.out HIa.out).mono ?_
                rintro e w' ⟨rfl, rfl⟩
                go_wp2_with fail
                refine (adig_no _ _ mF.out HFa.out).mono ?_
                rintro e w' ⟨rfl, rfl⟩
                go_wp2
                refine bodyPost_ret (results_tmp5 rfl _ _ _) rfl ?_
                exact ⟨ret5 HN.out.symm Q1.out Q2.out Q3.out.symm HK.out.symm, rfl⟩
              | true =>
                have HK : Hid (sOk b = true) := by show sOk b = true; unfold sOk; rw [Q3.out, ← eF.out, hFa, ← eI.out, HIa.out, eF.out, eI.out, HEI.out.2 hI0, HEF.out.2 hF0]; rfl
                have HFa := hide hFa
                clear hFa
                go_wp2_with fail
                refine (adig_yes _ _ mI.out HIa.out).mono ?_
                rintro e w' ⟨rfl, rfl⟩
                go_wp2_with fail
                refine (adig_yes _ _ mF.out HFa.out).mono ?_
                rintro e w' ⟨rfl, rfl⟩
                go_wp2
                refine bodyPost_ret (results_tmp5 rfl _ _ _) rfl ?_
                exact ⟨ret5 HN.out.symm Q1.out Q2.out Q3.out.symm HK.out.symm, rfl⟩
            · have HK : Hid (sOk b = false) := by show sOk b = false; unfold sOk; rw [Q3.out, HEF.out.1 (by omega)]; simp
              have hF1 : F.size ≤ 0 := by omega
              have hF2 : decide ((0 : Int) < (F.size : Int)) = false := by rw [decide_eq_false_iff_not]; omega
              clear hF0
              go_wp2_with (go_at_call 15; refine (adig_yes _ _ mI.out HIa.out).mono ?_; rintro e w' ⟨rfl, rfl⟩)
              refine bodyPost_ret (results_tmp5 rfl _ _ _) rfl ?_
              exact ⟨ret5 HN.out.symm Q1.out Q2.out Q3.out.symm HK.out.symm, rfl⟩
        · have HK : Hid (sOk b = false) := by show sOk b = false; unfold sOk; rw [HEI.out.1 (by omega)]; rfl
          have hI1 : I.size ≤ 0 := by omega
          have hI2 : decide ((0 : Int) < (I.size : Int)) = false := by rw [decide_eq_false_iff_not]; omega
          clear hI0
          go_wp2
          refine bodyPost_ret (results_tmp5 rfl _ _ _) rfl ?_
          exact ⟨ret5 HN.out.symm Q1.out Q2.out Q3.out.symm HK.out.symm, rfl⟩
      · have h46b : ((s[j].toNat : Int) == 46) = false := by
          rw [beq_eq_false_iff_ne]; intro e; apply h46; apply UInt8.toNat_inj.1; show s[j].toNat = 46; omega
        have HZ' : Hid (∀ i, i < j + 1 → ∀ x, b[i]? = some x → notDot x = true) := by
          intro i hi x hx
          rcases Nat.lt_or_ge i j with h | h
          · exact HZ.out i h x hx
          · obtain rfl : i = j := by omega
            rw [← HB.out, byte_at? s i hlt] at hx
            injection hx with e
            rw [← e]; unfold notDot; simpa using h46
        clear h46 HZ
        go_wp2
        go_round
        case rel => exact ⟨j + 1, by omega, by go_num, rfl, HZ'⟩
        case measure => simp [intOf]; omega
    · obtain rfl : j = s.size := by omega
      obtain ⟨q1, q2, q3, q4⟩ := sp_none s b HB.out HZ.out
      have HE0 := hide (isEmpty_size s b (by rw [← HB.out]))
      have Q1 := hide q1
      have Q2 := hide q2
      have Q3 := hide q3
      have Q4 := hide q4
      clear q1 q2 q3 q4 HZ hlt
      by_cases h0b : 0 < s.size
      · have mB : Hid (s.size ≤ maxLen) := by unfold Hid maxLen; omega
        cases hBa : allDig s.data.toList with
        | false =>
          have HK : Hid (sOk b = false) := by show sOk b = false; rw [Q4.out, ← HB.out, hBa]; simp
          have HBa := hide hBa
          clear hBa
          go_wp2_with (go_at_call 15; refine (adig_no _ _ mB.out HBa.out).mono ?_; rintro e w' ⟨rfl, rfl⟩)
          refine bodyPost_ret (results_tmp5 rfl _ _ _) rfl ?_
          exact ⟨ret5 HN.out.symm Q1.out.symm Q2.out.symm Q3.out.symm HK.out.symm, rfl⟩
        | true =>
          have HK : Hid (sOk b = true) := by show sOk b = true; rw [Q4.out, HE0.out.2 h0b, ← HB.out, hBa]; rfl
          have HBa := hide hBa
          clear hBa
          go_wp2_with (go_at_call 15; refine (adig_yes _ _ mB.out HBa.out).mono ?_; rintro e w' ⟨rfl, rfl⟩)
          refine bodyPost_ret (results_tmp5 rfl _ _ _) rfl ?_
          exact ⟨ret5 HN.out.symm Q1.out.symm Q2.out.symm Q3.out.symm HK.out.symm, rfl⟩
      · exfalso; omega

set_option maxHeartbeats 1600000 in
theorem sp_empty (s : ByteArray) (w : World) (hs : s.size ≤ 1048576) (h0 : s.size ≤ 0) (h1 : decide ((0 : Int) < (s.size : Int)) = false) (HN : Hid (negOf s.data.toList = false)) :
    Calls Try.prog 24 #[.string s] w fun e w' => e = .returned (.tuple #[.bool (negOf s.data.toList), .string ⟨(sInt (bodyOf s.data.toList)).toArray⟩, .string ⟨(sFrac (bodyOf s.data.toList)).toArray⟩, .bool (sDot (bodyOf s.data.toList)), .bool (sOk (bodyOf s.data.toList))]) ∧ w' = w := by
  obtain ⟨b, Hb⟩ := name_it (bodyOf s.data.toList)
  rw [← Hb.out]
  have HB : Hid (s.data.toList = b) := by
    rw [Hb.out]; unfold bodyOf startOf; rw [HN.out]; rfl
  go_enter Try.func24, Try.ntmps24
  go_wp2
  go_loop [9, 10] (fun dv jv => ∃ j : Nat, j ≤ s.size ∧ jv = .int .i64 (j : Int) ∧ dv = .int .i64 (-1) ∧ Hid (∀ i, i < j → ∀ x, b[i]? = some x → notDot x = true)) (fun _ jv => s.size - (intOf jv).toNat)
  case atStart => exact ⟨0, Nat.zero_le _, rfl, rfl, fun i hi => by omega⟩
  case round =>
    obtain ⟨j, hj, rfl, rfl, HZ⟩ := hrel
    by_cases hlt : j < s.size
    · exfalso; omega
    · obtain rfl : j = s.size := by omega
      obtain ⟨q1, q2, q3, q4⟩ := sp_none s b HB.out HZ.out
      have HE0 := hide (isEmpty_size s b (by rw [← HB.out]))
      have Q1 := hide q1
      have Q2 := hide q2
      have Q3 := hide q3
      have Q4 := hide q4
      clear q1 q2 q3 q4 HZ hlt
      by_cases h0b : 0 < s.size
      · exfalso; omega
      · have HK : Hid (sOk b = false) := by show sOk b = false; rw [Q4.out, HE0.out.1 (by omega)]; rfl
        have h0c : s.size ≤ 0 := by omega
        have h0d : decide ((0 : Int) < (s.size : Int)) = false := by rw [decide_eq_false_iff_not]; omega
        clear h0b
        go_wp2
        refine bodyPost_ret (results_tmp5 rfl _ _ _) rfl ?_
        exact ⟨ret5 HN.out.symm Q1.out.symm Q2.out.symm Q3.out.symm HK.out.symm, rfl⟩

theorem split_any (s : ByteArray) (w : World) (hs : s.size ≤ 1048576) :
    Calls Try.prog 24 #[.string s] w fun e w' => e = .returned (.tuple #[.bool (negOf s.data.toList), .string ⟨(sInt (bodyOf s.data.toList)).toArray⟩, .string ⟨(sFrac (bodyOf s.data.toList)).toArray⟩, .bool (sDot (bodyOf s.data.toList)), .bool (sOk (bodyOf s.data.toList))]) ∧ w' = w := by
  by_cases h0 : 0 < s.size
  · by_cases hn : negOf s.data.toList = true
    · exact sp_neg s w hs h0 (by rw [(neg_iff s h0).1 hn]; rfl) hn
    · have hn' : negOf s.data.toList = false := by simpa using hn
      refine sp_pos s w hs h0 ?_ hn'
      rw [beq_eq_false_iff_ne]; intro e; apply hn; rw [neg_iff s h0]; apply UInt8.toNat_inj.1; show s[0].toNat = 45; omega
  · have hn' : negOf s.data.toList = false := by
      have e : s.data.toList.length = s.size := by simp
      rw [List.eq_nil_of_length_eq_zero (show s.data.toList.length = 0 by omega)]; rfl
    exact sp_empty s w hs (by omega) (by rw [decide_eq_false_iff_not]; omega) hn'
end Go.Proofs.Qxb6001398a
