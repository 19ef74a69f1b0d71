import Derived.Test.Qxb6001451aMeet
namespace Go.Proofs.Qxb6001451a
open Go.RowKit

/-! ### THE PLAIN LAWS of 'NeverMetExactlyWhenAllNodesFail' and 'TwoDisjointQuorumsMeanMetTwice' -/
theorem scan_iff (t : Int) : ∀ (es : List (Bool × Nat)) (c ex : Nat), (scan t es c ex).1 = true ↔ (c : Int) < t ∧ t ≤ (c : Int) + (cnt (fun e => e.1) es : Int)
  | [], c, ex => by simp [scan, cnt_nil]
  | e :: es, c, ex => by
    have h1 := scan_iff t es (c + 1) (ex + e.2)
    have h2 := scan_iff t es c (ex + e.2)
    rw [cnt_cons]
    simp only [scan]
    by_cases he : e.1 = true
    · simp only [he, if_true]
      by_cases hc : (c : Int) + 1 = t
      · simp only [hc, if_true, true_iff]
        omega
      · simp only [hc, if_false]
        rw [h1]
        omega
    · simp only [he, Bool.false_eq_true, if_false]
      rw [h2]
      omega

theorem cnt_append {α : Type} (p : α → Bool) (a b : List α) : cnt p (a ++ b) = cnt p a + cnt p b := by simp [cnt]
theorem cnt_map {α β : Type} (p : β → Bool) (f : α → β) (l : List α) : cnt p (l.map f) = cnt (fun x => p (f x)) l := by
  induction l with
  | nil => rfl
  | cons a l ih => rw [List.map_cons, cnt_cons, cnt_cons, ih]

theorem sat_succ (S : Nat → Bool) (n : Nat) (q : QT (n + 1)) : sat S (n + 1) q = if ((vals q).length : Int) + ((inn q).length : Int) < thr q then (false, 0)
      else scan (thr q) ((vals q).map (fun z => (S z.toNat, 1)) ++ (inn q).map (fun x => ((sat S n x).1, 1 + (sat S n x).2))) 0 0 := rfl

theorem cnt_pair {α : Type} (a b c d : α → Bool) (l : List α) (h : ∀ x ∈ l, (if a x then 1 else 0) + (if b x then 1 else 0) ≤ 2 * (if c x then 1 else 0) + (if d x then 1 else 0)) : cnt a l + cnt b l ≤ 2 * cnt c l + cnt d l := by
  induction l with
  | nil => simp [cnt_nil]
  | cons x l ih =>
    have h1 := ih (fun y hy => h y (by simp [hy]))
    have h2 := h x (by simp)
    rw [cnt_cons, cnt_cons, cnt_cons, cnt_cons]
    omega

theorem sat_iff (S : Nat → Bool) (n : Nat) (q : QT (n + 1)) :
    (sat S (n + 1) q).1 = true ↔ 0 < thr q ∧ thr q ≤ (cnt (fun z => S (Int.toNat z)) (vals q) : Int) + (cnt (fun x => (sat S n x).1) (inn q) : Int) := by
  have h1 := cnt_le (fun z => S (Int.toNat z)) (vals q)
  have h2 := cnt_le (fun x => (sat S n x).1) (inn q)
  rw [sat_succ]
  split
  · simp only [Bool.false_eq_true, false_iff]; omega
  · rw [scan_iff, cnt_append, cnt_map, cnt_map]
    simp only [Int.natCast_add]
    omega

theorem cnt_mono {α : Type} (p q : α → Bool) (l : List α) (h : ∀ x ∈ l, p x = true → q x = true) : cnt p l ≤ cnt q l := by
  induction l with
  | nil => simp [cnt_nil]
  | cons a l ih =>
    have h1 := ih (fun x hx => h x (by simp [hx]))
    have h2 := h a (by simp)
    rw [cnt_cons, cnt_cons]
    by_cases hp : p a = true
    · simp [hp, h2 hp]; omega
    · simp only [hp, Bool.false_eq_true, if_false]; omega
theorem cnt_all {α : Type} (p : α → Bool) (l : List α) (h : ∀ x ∈ l, p x = true) : cnt p l = l.length := by
  unfold cnt; rw [List.filter_eq_self.2 h]
theorem cnt_two {α : Type} (p q : α → Bool) (l : List α) (h : ∀ x ∈ l, ¬ (p x = true ∧ q x = true)) : cnt p l + cnt q l = cnt (fun x => p x || q x) l := by
  induction l with
  | nil => rfl
  | cons a l ih =>
    have h1 := ih (fun x hx => h x (by simp [hx]))
    have h2 := h a (by simp)
    rw [cnt_cons, cnt_cons, cnt_cons]
    by_cases hp : p a = true
    · have hq : q a = false := by cases hq : q a with | false => rfl | true => exact absurd ⟨hp, hq⟩ h2
      simp [hp, hq]; omega
    · by_cases hq : q a = true
      · simp [hp, hq]; omega
      · simp [hp, hq]; omega
theorem cnt_congr {α : Type} (p q : α → Bool) (l : List α) (h : ∀ x ∈ l, p x = q x) : cnt p l = cnt q l := by
  unfold cnt; rw [List.filter_congr h]

/-- Every id of the tree lies in S. -/
def AllIn (S : Nat → Bool) : (n : Nat) → QT n → Prop
  | 0, _ => True
  | n + 1, q => (∀ z ∈ vals q, S (Int.toNat z) = true) ∧ ∀ x ∈ inn q, AllIn S n x

theorem inner_wt (n : Nat) (q : QT (n + 1)) (h : wt (n + 1) q ≤ 1048576) : 8 * (vals q).length + 64 * (inn q).length ≤ 1048576 ∧ ∀ x ∈ inn q, wt n x ≤ 1048576 := by
  have e : wt (n + 1) q = 8 * (vals q).length + 64 * (inn q).length + ((inn q).map (wt n)).sum := rfl
  refine ⟨by omega, fun x hx => ?_⟩
  have := single_le_sum (wt n) (inn q) x hx
  omega

/-- THE LAW OF 'NeverMet'. -/
theorem never_iff (S W : Nat → Bool) : ∀ (n : Nat) (q : QT n), AllIn S n q → wt n q ≤ 1048576 → QGe n q 1 → QLe n q 536870912 → (met W n q ≠ 0 ↔ (sat S n q).1 = true)
  | 0, _, _, _, _, _ => by simp [met, sat]
  | n + 1, q, hA, hw, hg, hl => by
    obtain ⟨hVL, hwi⟩ := inner_wt n q hw
    have ih : ∀ x ∈ inn q, (met W n x ≠ 0 ↔ (sat S n x).1 = true) := fun x hx => never_iff S W n x (hA.2 x hx) (hwi x hx) (hg.2 x hx) (hl.2 x hx)
    rw [sat_iff, cnt_all _ _ hA.1]
    have hs : cnt (fun x => (sat S n x).1) (inn q) = cnt (fun x => met W n x == 2) (inn q) + cnt (fun x => met W n x == 1) (inn q) := by
      rw [cnt_two _ _ _ (by intro x _ h; simp at h; omega)]
      apply cnt_congr
      intro x hx
      have h1 := ih x hx
      have h2 := met_le W n x
      rw [Bool.eq_iff_iff, ← h1]
      simp only [Bool.or_eq_true, beq_iff_eq]
      omega
    have hv : cnt (fun z => !W (Int.toNat z)) (vals q) + cnt (fun z => W (Int.toNat z)) (vals q) = (vals q).length := by
      rw [cnt_two _ _ _ (by intro x _ h; simp at h), cnt_all _ _ (by intro x _; simp)]
    rw [hs]
    have h1 := hg.1
    have h2 := hl.1
    have b1 := cnt_le (fun x => met W n x == 2) (inn q)
    have b2 := cnt_le (fun x => met W n x == 1) (inn q)
    simp only [met]
    generalize cnt (fun z => !W (Int.toNat z)) (vals q) = a1 at *
    generalize cnt (fun z => W (Int.toNat z)) (vals q) = a2 at *
    generalize cnt (fun x => met W n x == 2) (inn q) = a3 at *
    generalize cnt (fun x => met W n x == 1) (inn q) = a4 at *
    generalize thr q = t at *
    clear hs ih hA
    have hwr : wrap64 (2 * (t - ((a1 + a3 : Nat) : Int))) = 2 * (t - ((a1 + a3 : Nat) : Int)) := by unfold wrap64; omega
    unfold verdict
    rw [hwr]
    clear hwr
    by_cases g1 : t ≤ ((a1 + a3 : Nat) : Int) ∨ 2 * (t - ((a1 + a3 : Nat) : Int)) ≤ ((a2 + a4 : Nat) : Int)
    · rw [if_pos g1]
      constructor
      · intro _; omega
      · intro _; omega
    · rw [if_neg g1]
      by_cases g2 : t ≤ ((a1 + a3 : Nat) : Int) + ((a2 + a4 : Nat) : Int)
      · rw [if_pos g2]
        constructor
        · intro _; omega
        · intro _; omega
      · rw [if_neg g2]
        constructor
        · intro h; exact absurd rfl h
        · intro h; omega

/-- Inside W the two sets share no id of the tree. -/
def Apart (A B W : Nat → Bool) : (n : Nat) → QT n → Prop
  | 0, _ => True
  | n + 1, q => (∀ z ∈ vals q, W (Int.toNat z) = true → ¬ (A (Int.toNat z) = true ∧ B (Int.toNat z) = true)) ∧ ∀ x ∈ inn q, Apart A B W n x

/-- THE LAW OF 'TwoDisjointQuorums'. -/
theorem twice_of (A B W : Nat → Bool) : ∀ (n : Nat) (q : QT n), Apart A B W n q → wt n q ≤ 1048576 →
    ((sat A n q).1 = true ∨ (sat B n q).1 = true → 1 ≤ met W n q) ∧ ((sat A n q).1 = true ∧ (sat B n q).1 = true → met W n q = 2)
  | 0, _, _, _ => by simp [sat]
  | n + 1, q, hA, hw => by
    obtain ⟨hVL, hwi⟩ := inner_wt n q hw
    have ih : ∀ x ∈ inn q, _ := fun x hx => twice_of A B W n x (hA.2 x hx) (hwi x hx)
    rw [sat_iff, sat_iff]
    have hv : cnt (fun z => !W (Int.toNat z)) (vals q) + cnt (fun z => W (Int.toNat z)) (vals q) = (vals q).length := by
      rw [cnt_two _ _ _ (by intro x _ h; simp at h), cnt_all _ _ (by intro x _; simp)]
    have va := cnt_le (fun z => A (Int.toNat z)) (vals q)
    have vb := cnt_le (fun z => B (Int.toNat z)) (vals q)
    have vab : cnt (fun z => A (Int.toNat z)) (vals q) + cnt (fun z => B (Int.toNat z)) (vals q) ≤ 2 * cnt (fun z => !W (Int.toNat z)) (vals q) + cnt (fun z => W (Int.toNat z)) (vals q) := by
      apply cnt_pair
      intro z hz
      have h3 := hA.1 z hz
      cases hw' : W (Int.toNat z) with
      | true =>
        have h4 := h3 hw'
        cases ha : A (Int.toNat z) <;> cases hb : B (Int.toNat z) <;> simp_all
      | false =>
        cases ha : A (Int.toNat z) <;> cases hb : B (Int.toNat z) <;> simp
    have ia : cnt (fun x => (sat A n x).1) (inn q) ≤ cnt (fun x => met W n x == 2) (inn q) + cnt (fun x => met W n x == 1) (inn q) := by
      rw [cnt_two _ _ _ (by intro x _ h; simp at h; omega)]
      apply cnt_mono
      intro x hx h
      have h1 := (ih x hx).1 (Or.inl h)
      have h2 := met_le W n x
      simp only [Bool.or_eq_true, beq_iff_eq]
      omega
    have ib : cnt (fun x => (sat B n x).1) (inn q) ≤ cnt (fun x => met W n x == 2) (inn q) + cnt (fun x => met W n x == 1) (inn q) := by
      rw [cnt_two _ _ _ (by intro x _ h; simp at h; omega)]
      apply cnt_mono
      intro x hx h
      have h1 := (ih x hx).1 (Or.inr h)
      have h2 := met_le W n x
      simp only [Bool.or_eq_true, beq_iff_eq]
      omega
    have iab : cnt (fun x => (sat A n x).1) (inn q) + cnt (fun x => (sat B n x).1) (inn q) ≤ 2 * cnt (fun x => met W n x == 2) (inn q) + cnt (fun x => met W n x == 1) (inn q) := by
      apply cnt_pair
      intro x hx
      have h3 := ih x hx
      have h4 := met_le W n x
      generalize met W n x = m at *
      cases ha : (sat A n x).1 <;> cases hb : (sat B n x).1
      · simp
      · have h5 := h3.1 (Or.inr hb)
        rcases (show m = 1 ∨ m = 2 by omega) with rfl | rfl <;> simp
      · have h5 := h3.1 (Or.inl ha)
        rcases (show m = 1 ∨ m = 2 by omega) with rfl | rfl <;> simp
      · have h5 := h3.2 ⟨ha, hb⟩
        subst h5
        simp
    have b1 := cnt_le (fun x => met W n x == 2) (inn q)
    have b2 := cnt_le (fun x => met W n x == 1) (inn q)
    simp only [met]
    generalize cnt (fun z => !W (Int.toNat z)) (vals q) = a1 at *
    generalize cnt (fun z => W (Int.toNat z)) (vals q) = a2 at *
    generalize cnt (fun x => met W n x == 2) (inn q) = a3 at *
    generalize cnt (fun x => met W n x == 1) (inn q) = a4 at *
    generalize cnt (fun z => A (Int.toNat z)) (vals q) = a5 at *
    generalize cnt (fun z => B (Int.toNat z)) (vals q) = a6 at *
    generalize cnt (fun x => (sat A n x).1) (inn q) = a7 at *
    generalize cnt (fun x => (sat B n x).1) (inn q) = a8 at *
    generalize thr q = t at *
    clear ih hA
    unfold verdict
    refine ⟨fun h => ?_, fun h => ?_⟩
    · split
      · omega
      · rw [if_pos (by omega)]; omega
    · have hwr : wrap64 (2 * (t - ((a1 + a3 : Nat) : Int))) = 2 * (t - ((a1 + a3 : Nat) : Int)) := by unfold wrap64; omega
      rw [hwr, if_pos (by omega)]
end Go.Proofs.Qxb6001451a
