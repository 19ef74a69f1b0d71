/-
  THE PLAIN MATHEMATICS OF SEAT b6001398a: decimal digits as lists of bytes. No Go in sight.
-/
import Derived.RowKit
namespace Go.Proofs.Qxb6001398a.Plain
open Go.RowKit (wrap64)

def isDig (c : UInt8) : Bool := decide (48 ≤ (c.toNat : Int)) && decide ((c.toNat : Int) ≤ 57)
def allDig (l : List UInt8) : Bool := l.all isDig
def stepV (n : Int) (c : UInt8) : Int := wrap64 (wrap64 (n * 10) + ((c.toNat : Int) - 48))
def valF (n : Int) (l : List UInt8) : Int := l.foldl stepV n
def val (l : List UInt8) : Int := valF 0 l

/-- The decimal digits of n, none for nought; the first number is fuel. -/
def digs : Nat → Nat → List UInt8
  | 0, _ => []
  | f + 1, n => if n = 0 then [] else digs f (n / 10) ++ [UInt8.ofNat (48 + n % 10)]
def itoa (n : Nat) : List UInt8 := if n = 0 then [48] else digs 20 n

/-- What digitsValue hands back beside its verdict. -/
def dvV (l : List UInt8) : Int := if allDig l then val l else 0
theorem dvV_yes {l : List UInt8} (h : allDig l = true) : dvV l = val l := by simp [dvV, h]
theorem dvV_no {l : List UInt8} (h : allDig l = false) : dvV l = 0 := by simp [dvV, h]

theorem byte_dig (d : Nat) (h : d < 10) : (UInt8.ofNat (48 + d)).toNat = 48 + d := by
  simp; omega

theorem isDig_iff (c : UInt8) : isDig c = true ↔ 48 ≤ c.toNat ∧ c.toNat ≤ 57 := by
  simp only [isDig, Bool.and_eq_true, decide_eq_true_eq]; omega

theorem isDig_dig (d : Nat) (h : d < 10) : isDig (UInt8.ofNat (48 + d)) = true := by
  rw [isDig_iff, byte_dig d h]; omega

theorem allDig_append (a b : List UInt8) : allDig (a ++ b) = (allDig a && allDig b) := by simp [allDig]
theorem allDig_cons (c : UInt8) (b : List UInt8) : allDig (c :: b) = (isDig c && allDig b) := by simp [allDig]
theorem allDig_nil : allDig [] = true := rfl

theorem isDig_no (c : UInt8) (h : (c.toNat : Int) < 48 ∨ 57 < (c.toNat : Int)) : isDig c = false := by
  rw [Bool.eq_false_iff]; intro e; have := (isDig_iff c).1 e; omega
theorem isDig_yes (c : UInt8) (h : 48 ≤ (c.toNat : Int) ∧ (c.toNat : Int) ≤ 57) : isDig c = true := by
  rw [isDig_iff]; omega
/-- A byte that is no digit, anywhere, spoils the whole. -/
theorem allDig_no (l : List UInt8) (k : Nat) (c : UInt8) (h : l[k]? = some c) (hc : isDig c = false) : allDig l = false := by
  rw [Bool.eq_false_iff]; intro e
  have := List.all_eq_true.1 e c (List.mem_of_getElem? h)
  rw [hc] at this; cases this

theorem digs_zero (f : Nat) : digs f 0 = [] := by cases f <;> simp [digs]
theorem digs_succ (f n : Nat) (h : n ≠ 0) : digs (f + 1) n = digs f (n / 10) ++ [UInt8.ofNat (48 + n % 10)] := by simp [digs, h]

theorem digs_allDig : ∀ (f n : Nat), allDig (digs f n) = true
  | 0, _ => rfl
  | f + 1, n => by
    unfold digs
    split
    · rfl
    · rw [allDig_append, digs_allDig f (n / 10), allDig_cons, isDig_dig _ (Nat.mod_lt _ (by omega))]; rfl

theorem digs_length : ∀ (f n : Nat), (digs f n).length ≤ f
  | 0, _ => by simp [digs]
  | f + 1, n => by
    unfold digs
    split
    · simp
    · have := digs_length f (n / 10); simp; omega

theorem valF_append (n : Int) (a b : List UInt8) : valF n (a ++ b) = valF (valF n a) b := by simp [valF]
theorem valF_cons (n : Int) (c : UInt8) (b : List UInt8) : valF n (c :: b) = valF (stepV n c) b := rfl
theorem valF_nil (n : Int) : valF n [] = n := rfl
theorem val_snoc (l : List UInt8) (c : UInt8) : val (l ++ [c]) = stepV (val l) c := by simp [val, valF]

theorem stepV_in (n : Int) (c : UInt8) (h0 : 0 ≤ n) (h1 : n * 10 + ((c.toNat : Int) - 48) ≤ 9223372036854775807) (hc : 48 ≤ (c.toNat : Int)) :
    stepV n c = n * 10 + ((c.toNat : Int) - 48) := by
  unfold stepV wrap64; omega

theorem val_digs : ∀ (f n : Nat), n < 10 ^ f → n ≤ 9223372036854775807 → val (digs f n) = n
  | 0, n, h, _ => by have : n = 0 := by simpa using h
                     subst this; rfl
  | f + 1, n, h, hm => by
    by_cases hn : n = 0
    · subst hn; rw [digs_zero]; rfl
    · rw [digs_succ f n hn, val_snoc, val_digs f (n / 10) (by rw [Nat.pow_succ] at h; omega) (by omega)]
      have hb := byte_dig (n % 10) (Nat.mod_lt _ (by omega))
      rw [stepV_in _ _ (by omega) (by rw [hb]; omega) (by rw [hb]; omega), hb]
      omega

theorem val_itoa (n : Nat) (hm : n ≤ 9223372036854775807) : val (itoa n) = n := by
  unfold itoa
  split
  · rename_i h; subst h; simp [val, valF, stepV, wrap64]
  · exact val_digs 20 n (by omega) hm

theorem itoa_allDig (n : Nat) : allDig (itoa n) = true := by
  unfold itoa
  split
  · rfl
  · exact digs_allDig _ _

theorem itoa_length (n : Nat) : (itoa n).length ≤ 20 := by
  unfold itoa
  split
  · simp
  · exact digs_length _ _

theorem zeros_allDig : ∀ k, allDig (List.replicate k 48) = true
  | 0 => rfl
  | k + 1 => by rw [List.replicate_succ, allDig_cons, zeros_allDig k]; rfl

theorem stepV_zero : stepV 0 48 = 0 := by simp [stepV, wrap64]

theorem val_zeros (k : Nat) (l : List UInt8) : val (List.replicate k 48 ++ l) = val l := by
  have h : ∀ k, valF 0 (List.replicate k 48) = 0 := by
    intro k
    induction k with
    | zero => rfl
    | succ k ih => rw [List.replicate_succ, valF_cons, stepV_zero, ih]
  unfold val
  rw [valF_append, h]

/-! ### natural value of digits -/
def nval (l : List UInt8) : Nat := l.foldl (fun n c => n * 10 + (c.toNat - 48)) 0

theorem nval_snoc (l : List UInt8) (c : UInt8) : nval (l ++ [c]) = nval l * 10 + (c.toNat - 48) := by simp [nval]

theorem allDig_snoc (l : List UInt8) (c : UInt8) : allDig (l ++ [c]) = (allDig l && isDig c) := by simp [allDig]

/-- Induction on lists from the right. -/
theorem snoc_ind {P : List UInt8 → Prop} (h0 : P []) (h1 : ∀ l c, P l → P (l ++ [c])) : ∀ l, P l := by
  intro l
  have h : ∀ (n : Nat) (l : List UInt8), l.length = n → P l := by
    intro n
    induction n with
    | zero => intro l hl; rw [List.eq_nil_of_length_eq_zero hl]; exact h0
    | succ n ih =>
      intro l hl
      have hne : l ≠ [] := by intro e; subst e; simp at hl
      rw [← List.dropLast_concat_getLast hne]
      exact h1 _ _ (ih _ (by simp [hl]))
  exact h _ l rfl

theorem nval_lt : ∀ l, allDig l = true → nval l < 10 ^ l.length := by
  apply snoc_ind
  · intro _; simp [nval]
  · intro l c ih h
    rw [allDig_snoc, Bool.and_eq_true] at h
    have := ih h.1
    have hc := (isDig_iff c).1 h.2
    rw [nval_snoc, List.length_append, List.length_singleton, Nat.pow_succ]
    omega

theorem val_nval : ∀ l, allDig l = true → l.length ≤ 18 → val l = nval l := by
  apply snoc_ind
  · intro _ _; rfl
  · intro l c ih h hl
    rw [allDig_snoc, Bool.and_eq_true] at h
    rw [List.length_append, List.length_singleton] at hl
    have hlt := nval_lt l h.1
    have hp : 10 ^ l.length ≤ 10 ^ 17 := Nat.pow_le_pow_right (by omega) (by omega)
    have hc := (isDig_iff c).1 h.2
    rw [val_snoc, nval_snoc, ih h.1 (by omega), stepV_in _ _ (by omega) (by omega) (by omega)]
    omega

/-- Digits that open with no nought are what their number writes. -/
theorem digs_nval : ∀ l, allDig l = true → l.head? ≠ some 48 → ∀ f, l.length ≤ f → digs f (nval l) = l ∧ (l ≠ [] → nval l ≠ 0) := by
  apply snoc_ind
  · intro _ _ f _; exact ⟨by show digs f 0 = []; exact digs_zero f, fun h => absurd rfl h⟩
  · intro l c ih h hh f hf
    rw [allDig_snoc, Bool.and_eq_true] at h
    have hc := (isDig_iff c).1 h.2
    rw [List.length_append, List.length_singleton] at hf
    obtain ⟨g, rfl⟩ : ∃ g, f = g + 1 := ⟨f - 1, by omega⟩
    have hcc : UInt8.ofNat (48 + (c.toNat - 48)) = c := by
      rw [show 48 + (c.toNat - 48) = c.toNat by omega]; simp
    by_cases hl : l = []
    · subst hl
      have hc0 : c ≠ 48 := by intro e; subst e; simp at hh
      have hn : c.toNat ≠ 48 := by intro e; apply hc0; apply UInt8.toNat_inj.1; simpa using e
      have hv : nval ([] ++ [c]) = c.toNat - 48 := by simp [nval]
      rw [hv]
      refine ⟨?_, fun _ => by omega⟩
      rw [digs_succ g _ (by omega), show (c.toNat - 48) / 10 = 0 by omega, digs_zero, show (c.toNat - 48) % 10 = c.toNat - 48 by omega, hcc]
    · have hh' : l.head? ≠ some 48 := by
        cases l with
        | nil => exact absurd rfl hl
        | cons a t => simpa using hh
      have hi := ih h.1 hh' g (by omega)
      have hne := hi.2 hl
      rw [nval_snoc]
      refine ⟨?_, fun _ => by omega⟩
      rw [digs_succ g _ (by omega), show (nval l * 10 + (c.toNat - 48)) / 10 = nval l by omega, show (nval l * 10 + (c.toNat - 48)) % 10 = c.toNat - 48 by omega, hi.1, hcc]

theorem nval_zeros (k : Nat) (l : List UInt8) : nval (List.replicate k 48 ++ l) = nval l := by
  have h : ∀ k, nval (List.replicate k 48) = 0 := by
    intro k
    induction k with
    | zero => rfl
    | succ k ih => rw [List.replicate_succ', nval_snoc, ih]; rfl
  unfold nval at *
  rw [List.foldl_append, h]

/-- THE LAW OF 'AcceptsExactlyDigits': at most nine digits, noughts ahead struck but for the last byte. -/
theorem itoa_strip (l : List UInt8) (j : Nat) (hd : allDig l = true) (hlen : l.length ≤ 18) (hj : j < l.length) (hz : ∀ i, i < j → l[i]? = some 48)
    (hend : j + 1 = l.length ∨ l[j]? ≠ some 48) : itoa (val l).toNat = l.drop j ∧ 0 ≤ val l := by
  have hsplit : l = List.replicate j 48 ++ l.drop j := by
    conv => lhs; rw [← List.take_append_drop j l]
    congr 1
    apply List.ext_getElem?
    intro i
    rw [List.getElem?_take, List.getElem?_replicate]
    split
    · rename_i h; exact hz i h
    · rfl
  have hv : val l = nval (l.drop j) := by
    rw [val_nval l hd hlen]
    conv => lhs; rw [hsplit]
    rw [nval_zeros]
  rw [hv, Int.toNat_natCast]
  refine ⟨?_, by omega⟩
  have hd' : allDig (l.drop j) = true := by
    rw [hsplit, allDig_append, Bool.and_eq_true] at hd
    exact hd.2
  have hdl : (l.drop j).length = l.length - j := List.length_drop ..
  by_cases h0 : l[j]? = some 48
  · have hl1 : j + 1 = l.length := by
      rcases hend with h | h
      · exact h
      · exact absurd h0 h
    have : l.drop j = [48] := by
      apply List.ext_getElem?
      intro i
      rw [List.getElem?_drop]
      cases i with
      | zero => simpa using h0
      | succ i => rw [List.getElem?_eq_none (by omega)]; simp
    rw [this]
    decide
  · have hh : (l.drop j).head? ≠ some 48 := by
      rw [List.head?_drop]
      exact h0
    obtain ⟨a, b⟩ := digs_nval (l.drop j) hd' hh 20 (by omega)
    have hne : l.drop j ≠ [] := by
      intro e
      rw [e] at hdl
      simp at hdl
      omega
    unfold itoa
    rw [if_neg (b hne), a]

end Go.Proofs.Qxb6001398a.Plain
