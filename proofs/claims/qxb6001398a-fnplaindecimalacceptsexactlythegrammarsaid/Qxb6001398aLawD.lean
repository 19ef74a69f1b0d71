import Derived.Test.Qxb6001398aSplit
import Derived.OpenShut
namespace Go.Proofs.Qxb6001398a
open Go.RowKit
open Plain

theorem zzB_yes (s : ByteArray) (p : Int) (w : World) (hs : s.size ≤ 1048576) :
    Calls Try.prog 22 #[.string s, .int .i32 p] w fun e w' => e = .returned (.bool true) ∧ w' = w := by
  go_enter Try.func22, Try.ntmps22
  go_wp2
  go_ret
  exact ⟨rfl, rfl⟩
theorem zzB_no (s : ByteArray) (p : Int) (w : World) (hs : s.size ≤ maxLen) (h : 1048576 < s.size) :
    Calls Try.prog 22 #[.string s, .int .i32 p] w fun e w' => e = .returned (.bool false) ∧ w' = w := by
  unfold maxLen at hs
  go_enter Try.func22, Try.ntmps22
  go_wp2
  go_ret
  exact ⟨rfl, rfl⟩

theorem D_long (s : ByteArray) (p : Int) (w : World) (hs : s.size ≤ maxLen) (h : 1048576 < s.size) :
    Calls Try.prog 9 #[.string s, .int .i32 p] w fun e w' => e = .returned (.bool true) ∧ Below w.heap.size w w' := by
  go_enter Try.func9, Try.ntmps9
  go_wp2_with (go_at_call 22; refine (zzB_no _ _ _ hs h).mono ?_; rintro e w' ⟨rfl, rfl⟩)
  go_ret
  exact ⟨rfl, Below.refl _ _⟩

/-- What the law is told of plainDecimal's refusal. -/
def C23no (s : ByteArray) (p : Int) : Prop := ∀ w, Calls Try.prog 23 #[.string s, .int .i32 p] w fun e w' => e = .returned (.tuple #[.bool false, .string ⟨#[]⟩, .string ⟨#[]⟩, .int .i64 0, .bool false]) ∧ Below w.heap.size w w'
def C23yes (s : ByteArray) (p : Int) (ng : Bool) (wh fr : ByteArray) : Prop := ∀ w, Calls Try.prog 23 #[.string s, .int .i32 p] w fun e w' => ∃ d : Int, e = .returned (.tuple #[.bool ng, .string wh, .string fr, .int .i64 d, .bool true]) ∧ Below w.heap.size w w'
def C24 (s : ByteArray) (ng : Bool) (I F : ByteArray) (dt ok : Bool) : Prop := ∀ w, Calls Try.prog 24 #[.string s] w fun e w' => e = .returned (.tuple #[.bool ng, .string I, .string F, .bool dt, .bool ok]) ∧ w' = w

set_option maxHeartbeats 800000 in
theorem D_no1 (s I F : ByteArray) (p : Int) (ng dt : Bool) (w : World) (hs : s.size ≤ 1048576) (c23 : C23no s p) (c24 : C24 s ng I F dt false) :
    Calls Try.prog 9 #[.string s, .int .i32 p] w fun e w' => e = .returned (.bool true) ∧ Below w.heap.size w w' := by
  go_enter Try.func9, Try.ntmps9
  go_wp2_with (go_at_call 22; refine (zzB_yes _ _ _ hs).mono ?_; rintro e w' ⟨rfl, rfl⟩)
  refine Calls.mono (c23 _) ?_
  rintro e w1 ⟨rfl, hb⟩
  go_wp2_with fail
  refine Calls.mono (c24 _) ?_
  rintro e w2 ⟨rfl, rfl⟩
  go_wp2
  go_ret
  exact ⟨rfl, hb⟩

set_option maxHeartbeats 800000 in
theorem D_no2 (s I F : ByteArray) (p : Int) (ng : Bool) (w : World) (hs : s.size ≤ 1048576) (hp1 : -2147483648 ≤ p) (hp2 : p ≤ 2147483647) (hpF : p < (F.size : Int)) (c23 : C23no s p) (c24 : C24 s ng I F true true) :
    Calls Try.prog 9 #[.string s, .int .i32 p] w fun e w' => e = .returned (.bool true) ∧ Below w.heap.size w w' := by
  have hdec : decide ((F.size : Int) ≤ p) = false := by rw [decide_eq_false_iff_not]; omega
  go_enter Try.func9, Try.ntmps9
  go_wp2_with (go_at_call 22; refine (zzB_yes _ _ _ hs).mono ?_; rintro e w' ⟨rfl, rfl⟩)
  refine Calls.mono (c23 _) ?_
  rintro e w1 ⟨rfl, hb⟩
  go_wp2_with fail
  refine Calls.mono (c24 _) ?_
  rintro e w2 ⟨rfl, rfl⟩
  go_wp2
  go_ret
  exact ⟨rfl, hb⟩

theorem zero_step (I : ByteArray) (k : Nat) (hlt : k < I.size) (hz : ∀ i, i < k → ∀ x, I.data.toList[i]? = some x → isZ x = true) (h48 : I[k] = 48) :
    ∀ i, i < k + 1 → ∀ x, I.data.toList[i]? = some x → isZ x = true := by
  intro i hi x hx
  rcases Nat.lt_or_ge i k with h | h
  · exact hz i h x hx
  · obtain rfl : i = k := by omega
    rw [byte_at? I i hlt] at hx
    injection hx with e
    rw [← e, h48]; rfl

theorem zero_end (I : ByteArray) (k : Nat) (wh : ByteArray) (hk : k ≤ I.size) (hz : ∀ i, i < k → ∀ x, I.data.toList[i]? = some x → isZ x = true)
    (hend : k = I.size ∨ ∃ x, I.data.toList[k]? = some x ∧ isZ x = false) (hw : wh = ⟨(I.data.toList.dropWhile isZ).toArray⟩) : I.extract k I.size = wh := by
  have hl : I.data.toList.length = I.size := by simp
  rw [hw, (while_pos isZ I.data.toList k (by omega) (fun i x hi hx => hz i hi x hx) (by rw [hl]; exact hend)).2, extract_list, List.take_of_length_le (by rw [List.length_drop]; omega)]

set_option maxHeartbeats 1600000 in
theorem D_yes1 (s I F : ByteArray) (p : Int) (ng : Bool) (wh : ByteArray) (w : World) (hs : s.size ≤ 1048576) (hI : I.size ≤ 1048576) (hwh : wh = ⟨(I.data.toList.dropWhile isZ).toArray⟩)
    (c23 : C23yes s p ng wh ⟨#[]⟩) (c24 : C24 s ng I F false true) :
    Calls Try.prog 9 #[.string s, .int .i32 p] w fun e w' => e = .returned (.bool true) ∧ Below w.heap.size w w' := by
  have HW := hide hwh
  clear hwh
  go_enter Try.func9, Try.ntmps9
  go_wp2_with (go_at_call 22; refine (zzB_yes _ _ _ hs).mono ?_; rintro e w' ⟨rfl, rfl⟩)
  refine Calls.mono (c23 _) ?_
  rintro e w1 ⟨d, rfl, hb⟩
  go_wp2_with fail
  refine Calls.mono (c24 _) ?_
  rintro e w2 ⟨rfl, rfl⟩
  cases ng
  all_goals
    go_wp2
    go_loop [16] (fun kv => ∃ k : Nat, k ≤ I.size ∧ kv = .int .i64 (k : Int) ∧ Hid (∀ i, i < k → ∀ x, I.data.toList[i]? = some x → isZ x = true)) (fun kv => I.size - (intOf kv).toNat)
    case atStart => exact ⟨0, Nat.zero_le _, rfl, fun i hi => by omega⟩
    case round =>
      obtain ⟨k, hk, rfl, HZ⟩ := hrel
      by_cases hlt : k < I.size
      · by_cases h48 : I[k] = 48
        · have h48b : ((I[k].toNat : Int) == 48) = true := by rw [h48]; rfl
          have HZ' := hide (zero_step I k hlt HZ.out h48)
          clear h48
          go_wp2
          go_round
          case rel => exact ⟨k + 1, by omega, by go_num, HZ'⟩
          case measure => simp [intOf]; omega
        · have h48b : ((I[k].toNat : Int) == 48) = false := by
            rw [beq_eq_false_iff_ne]; intro e; apply h48; apply UInt8.toNat_inj.1; show I[k].toNat = 48; omega
          have hE : I.extract k I.size = wh := zero_end I k wh hk HZ.out (Or.inr ⟨I[k], byte_at? I k hlt, by unfold isZ; simpa using h48⟩) HW.out
          clear h48
          go_wp2
          go_ret
          exact ⟨rfl, hb⟩
      · have hE : I.extract k I.size = wh := zero_end I k wh hk HZ.out (Or.inl (by omega)) HW.out
        have hk2 : I.size ≤ k := by omega
        have hk3 : decide ((k : Int) < (I.size : Int)) = false := by rw [decide_eq_false_iff_not]; omega
        clear hlt
        go_wp2
        go_ret
        exact ⟨rfl, hb⟩

set_option maxHeartbeats 1600000 in
theorem D_yes2 (s I F : ByteArray) (p : Int) (ng : Bool) (wh : ByteArray) (w : World) (hs : s.size ≤ 1048576) (hI : I.size ≤ 1048576) (hp1 : -2147483648 ≤ p) (hp2 : p ≤ 2147483647) (hpF : (F.size : Int) ≤ p) (hwh : wh = ⟨(I.data.toList.dropWhile isZ).toArray⟩)
    (c23 : C23yes s p ng wh F) (c24 : C24 s ng I F true true) :
    Calls Try.prog 9 #[.string s, .int .i32 p] w fun e w' => e = .returned (.bool true) ∧ Below w.heap.size w w' := by
  have HW := hide hwh
  have hdec : decide ((F.size : Int) ≤ p) = true := by rw [decide_eq_true_eq]; omega
  clear hwh
  go_enter Try.func9, Try.ntmps9
  go_wp2_with (go_at_call 22; refine (zzB_yes _ _ _ hs).mono ?_; rintro e w' ⟨rfl, rfl⟩)
  refine Calls.mono (c23 _) ?_
  rintro e w1 ⟨d, rfl, hb⟩
  go_wp2_with fail
  refine Calls.mono (c24 _) ?_
  rintro e w2 ⟨rfl, rfl⟩
  cases ng
  all_goals
    go_wp2
    go_loop [16] (fun kv => ∃ k : Nat, k ≤ I.size ∧ kv = .int .i64 (k : Int) ∧ Hid (∀ i, i < k → ∀ x, I.data.toList[i]? = some x → isZ x = true)) (fun kv => I.size - (intOf kv).toNat)
    case atStart => exact ⟨0, Nat.zero_le _, rfl, fun i hi => by omega⟩
    case round =>
      obtain ⟨k, hk, rfl, HZ⟩ := hrel
      by_cases hlt : k < I.size
      · by_cases h48 : I[k] = 48
        · have h48b : ((I[k].toNat : Int) == 48) = true := by rw [h48]; rfl
          have HZ' := hide (zero_step I k hlt HZ.out h48)
          clear h48
          go_wp2
          go_round
          case rel => exact ⟨k + 1, by omega, by go_num, HZ'⟩
          case measure => simp [intOf]; omega
        · have h48b : ((I[k].toNat : Int) == 48) = false := by
            rw [beq_eq_false_iff_ne]; intro e; apply h48; apply UInt8.toNat_inj.1; show I[k].toNat = 48; omega
          have hE : I.extract k I.size = wh := zero_end I k wh hk HZ.out (Or.inr ⟨I[k], byte_at? I k hlt, by unfold isZ; simpa using h48⟩) HW.out
          clear h48
          go_wp2
          go_ret
          exact ⟨rfl, hb⟩
      · have hE : I.extract k I.size = wh := zero_end I k wh hk HZ.out (Or.inl (by omega)) HW.out
        have hk2 : I.size ≤ k := by omega
        have hk3 : decide ((k : Int) < (I.size : Int)) = false := by rw [decide_eq_false_iff_not]; omega
        clear hlt
        go_wp2
        go_ret
        exact ⟨rfl, hb⟩

theorem sInt_le (l : List UInt8) : (sInt (bodyOf l)).length ≤ l.length ∧ (sFrac (bodyOf l)).length ≤ l.length := by
  have h1 : (bodyOf l).length ≤ l.length := by unfold bodyOf; rw [List.length_drop]; omega
  have h2 := congrArg List.length (List.takeWhile_append_dropWhile (p := notDot) (l := bodyOf l))
  rw [List.length_append] at h2
  have h3 : (sFrac (bodyOf l)).length ≤ ((bodyOf l).dropWhile notDot).length := by unfold sFrac; rw [List.length_tail]; omega
  have h4 : (sInt (bodyOf l)).length = ((bodyOf l).takeWhile notDot).length := rfl
  omega

theorem walkD (a0 : ByteArray) (a1 : Int) (w0 : a0.size ≤ maxLen) (w1 : (Lit.int .i32 a1).wf = true) (w : World) :
    Calls Try.prog 9 #[.string a0, .int .i32 a1] w fun e w' => e = .returned (.bool true) ∧ Below w.heap.size w w' := by
  have hb := bounds_i32 w1
  by_cases h1 : 1048576 < a0.size
  · exact D_long a0 a1 w w0 h1
  have hs : a0.size ≤ 1048576 := by omega
  have hl : a0.data.toList.length = a0.size := by simp
  obtain ⟨g1, g2⟩ := sInt_le a0.data.toList
  have c24 := fun w => split_any a0 w hs
  obtain ⟨k1, k2⟩ := split_pd (bodyOf a0.data.toList) a1
  cases hpd : pdB (bodyOf a0.data.toList) a1 with
  | none =>
    have c23 : C23no a0 a1 := fun w => ZZplain_none a0 a1 w hs hb.1 hb.2 hpd
    have hw := k1 hpd
    cases hok : sOk (bodyOf a0.data.toList) with
    | false =>
      rw [hok] at c24
      exact D_no1 a0 _ _ a1 _ _ w hs c23 c24
    | true =>
      rw [hok] at c24 hw
      cases hdt : sDot (bodyOf a0.data.toList) with
      | false => rw [hdt] at hw; simp at hw
      | true =>
        rw [hdt] at c24 hw
        simp at hw
        exact D_no2 a0 _ _ a1 _ w hs hb.1 hb.2 (by rw [size_of_list]; omega) c23 c24
  | some x =>
    obtain ⟨wh, fr⟩ := x
    have c23 : C23yes a0 a1 (negOf a0.data.toList) ⟨wh.toArray⟩ ⟨fr.toArray⟩ := fun w => ZZplain_some a0 a1 w wh fr hs hb.1 hb.2 hpd
    obtain ⟨m1, m2, m3, m4⟩ := k2 wh fr hpd
    rw [m1] at c24
    cases hdt : sDot (bodyOf a0.data.toList) with
    | false =>
      rw [hdt] at c24
      rw [m3 hdt] at c23
      exact D_yes1 a0 _ _ a1 _ _ w hs (by rw [size_of_list]; omega) (by rw [m4]) c23 c24
    | true =>
      rw [hdt] at c24
      obtain ⟨n1, n2⟩ := m2 hdt
      rw [n2] at c23
      exact D_yes2 a0 _ _ a1 _ _ w hs (by rw [size_of_list]; omega) hb.1 hb.2 (by rw [size_of_list]; exact n1) (by rw [m4]) c23 c24
end Go.Proofs.Qxb6001398a
