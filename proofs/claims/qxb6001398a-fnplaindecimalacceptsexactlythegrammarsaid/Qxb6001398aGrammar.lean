/-
  THE PLAIN LAW OF 'PlainDecimalAcceptsExactlyTheGrammar': two readings of the grammar -?D+(.D+)? on lists of bytes. No Go in sight.
-/
import Derived.Test.Qxb6001398aPlain
namespace Go.Proofs.Qxb6001398a.Plain

def isZ (c : UInt8) : Bool := c == 48
def notDot (c : UInt8) : Bool := c != 46
def negOf (l : List UInt8) : Bool := l.head? == some 45
def startOf (l : List UInt8) : Nat := if negOf l then 1 else 0
def bodyOf (l : List UInt8) : List UInt8 := l.drop (startOf l)
def dI (b : List UInt8) : List UInt8 := b.takeWhile isDig
def dR (b : List UInt8) : List UInt8 := b.dropWhile isDig

/-- What plainDecimal makes of a body: refused, or its whole and its fraction. -/
def pdB (b : List UInt8) (p : Int) : Option (List UInt8 × List UInt8) :=
  if dI b = [] then none
  else match dR b with
    | [] => some ((dI b).dropWhile isZ, [])
    | c :: t => if c ≠ 46 then none else if dR t ≠ [] ∨ dI t = [] ∨ p < ((dI t).length : Int) then none else some ((dI b).dropWhile isZ, dI t)

def sDot (b : List UInt8) : Bool := !(b.dropWhile notDot).isEmpty
def sInt (b : List UInt8) : List UInt8 := b.takeWhile notDot
def sFrac (b : List UInt8) : List UInt8 := (b.dropWhile notDot).tail
def sOk (b : List UInt8) : Bool := !(sInt b).isEmpty && allDig (sInt b) && (!sDot b || (!(sFrac b).isEmpty && allDig (sFrac b)))

/-- takeWhile and dropWhile by the place at which they part. -/
theorem while_pos (p : UInt8 → Bool) (b : List UInt8) (j : Nat) (hle : j ≤ b.length) (h : ∀ i x, i < j → b[i]? = some x → p x = true)
    (hj : j = b.length ∨ ∃ x, b[j]? = some x ∧ p x = false) : b.takeWhile p = b.take j ∧ b.dropWhile p = b.drop j := by
  have e : b = b.take j ++ b.drop j := (List.take_append_drop j b).symm
  have ha : ∀ a ∈ b.take j, p a = true := by
    intro a ha
    obtain ⟨i, hi⟩ := List.mem_iff_getElem?.1 ha
    rw [List.getElem?_take] at hi
    split at hi
    · rename_i hij; exact h i a hij hi
    · cases hi
  have hd : (b.drop j).takeWhile p = [] ∧ (b.drop j).dropWhile p = b.drop j := by
    rcases hj with hj | ⟨x, hx, hp⟩
    · subst hj; simp
    · have : b.drop j = x :: b.drop (j + 1) := by
        have hlt : j < b.length := by
          rcases Nat.lt_or_ge j b.length with g | g
          · exact g
          · rw [List.getElem?_eq_none g] at hx; cases hx
        rw [List.drop_eq_getElem_cons hlt]
        rw [List.getElem?_eq_getElem hlt] at hx
        cases hx; rfl
      rw [this]
      simp [hp]
  constructor
  · conv => lhs; rw [e]
    rw [List.takeWhile_append_of_pos ha, hd.1, List.append_nil]
  · conv => lhs; rw [e]
    rw [List.dropWhile_append_of_pos ha, hd.2]

theorem tw_all (p : UInt8 → Bool) : ∀ (l : List UInt8) (x : UInt8), x ∈ l.takeWhile p → p x = true
  | [], x, h => by simp at h
  | a :: l, x, h => by
    rw [List.takeWhile_cons] at h
    split at h
    · rename_i ha
      rcases List.mem_cons.1 h with e | e
      · rw [e]; exact ha
      · exact tw_all p l x e
    · simp at h
theorem tw_self (p : UInt8 → Bool) (l : List UInt8) (h : ∀ a ∈ l, p a = true) : l.takeWhile p = l := by
  have := List.takeWhile_append_of_pos (l₂ := []) h
  simpa using this
theorem dw_nil (p : UInt8 → Bool) (l : List UInt8) (h : ∀ a ∈ l, p a = true) : l.dropWhile p = [] := by
  have := List.dropWhile_append_of_pos (l₂ := []) h
  simpa using this

theorem dI_all (b : List UInt8) : allDig (dI b) = true := by
  unfold allDig dI; rw [List.all_eq_true]
  intro x hx
  exact tw_all isDig b x hx
theorem dI_dR (b : List UInt8) : b = dI b ++ dR b := (List.takeWhile_append_dropWhile).symm
theorem dR_head {b : List UInt8} {c : UInt8} {t : List UInt8} (h : dR b = c :: t) : isDig c = false := by
  have := List.head_dropWhile_not isDig (l := b) (by show dR b ≠ []; rw [h]; simp)
  have e : (List.dropWhile isDig b) = c :: t := h
  simp only [e, List.head_cons] at this
  simpa using this
theorem dig_notDot {l : List UInt8} (h : allDig l = true) : ∀ a ∈ l, notDot a = true := by
  intro a ha
  have := List.all_eq_true.1 h a ha
  have := (isDig_iff a).1 this
  unfold notDot
  rw [bne_iff_ne]
  intro e; subst e; simp at this
theorem allDig_dR {t : List UInt8} (h : allDig t = true) : dR t = [] := by
  unfold dR; exact dw_nil _ _ (List.all_eq_true.1 h)

/-- The two readings part nowhere. -/
theorem split_pd (b : List UInt8) (p : Int) :
    (pdB b p = none → (sOk b && (!sDot b || decide (((sFrac b).length : Int) ≤ p))) = false) ∧
    (∀ wh fr, pdB b p = some (wh, fr) → sOk b = true ∧ (sDot b = true → ((sFrac b).length : Int) ≤ p ∧ fr = sFrac b) ∧ (sDot b = false → fr = []) ∧ wh = (sInt b).dropWhile isZ) := by
  have hI := dI_all b
  have hn := dig_notDot hI
  cases hR : dR b with
  | nil =>
    have hb : b = dI b := by have := dI_dR b; rw [hR, List.append_nil] at this; exact this
    have hb' : allDig b = true := by rw [hb]; exact hI
    have hnb := dig_notDot hb'
    have e1 : sInt b = b := by unfold sInt; exact tw_self _ _ hnb
    have e2 : b.dropWhile notDot = [] := dw_nil _ _ hnb
    have e3 : sDot b = false := by unfold sDot; rw [e2]; rfl
    have e4 : sOk b = !b.isEmpty := by unfold sOk; rw [e1, e3, hb']; simp
    unfold pdB
    rw [hR, ← hb, e3, e4, e1]
    by_cases h0 : b = []
    · subst h0; simp
    · simp only [h0, if_false, Bool.not_false, Bool.true_or, Bool.and_true]
      refine ⟨by simp, ?_⟩
      intro wh fr h
      simp only [Option.some.injEq, Prod.mk.injEq] at h
      refine ⟨by simp [h0], by simp, fun _ => h.2.symm, h.1.symm⟩
  | cons c t =>
    have hc := dR_head hR
    have hb : b = dI b ++ c :: t := by have := dI_dR b; rw [hR] at this; exact this
    by_cases h46 : c = 46
    · subst h46
      have e1 : sInt b = dI b := by
        unfold sInt; conv => lhs; rw [hb]
        rw [List.takeWhile_append_of_pos hn]
        simp [notDot]
      have e2 : b.dropWhile notDot = 46 :: t := by
        conv => lhs; rw [hb]
        rw [List.dropWhile_append_of_pos hn]
        simp [notDot]
      have e3 : sDot b = true := by unfold sDot; rw [e2]; rfl
      have e4 : sFrac b = t := by unfold sFrac; rw [e2]; rfl
      have e5 : sOk b = (!(dI b).isEmpty && (!t.isEmpty && allDig t)) := by unfold sOk; rw [e1, e3, e4, hI]; simp
      unfold pdB
      rw [hR, e3, e4, e5, e1]
      by_cases h0 : dI b = []
      · simp [h0]
      · simp only [h0, if_false, ne_eq, not_true_eq_false]
        have hne : (dI b).isEmpty = false := by simp [h0]
        by_cases hr : dR t = []
        · have ht : t = dI t := by have := dI_dR t; rw [hr, List.append_nil] at this; exact this
          have hta : allDig t = true := by rw [ht]; exact dI_all t
          simp only [hr, not_true_eq_false, false_or]
          rw [← ht]
          by_cases ht0 : t = []
          · subst ht0; simp
          · by_cases hp : p < (t.length : Int)
            · simp only [ht0, hp, or_true, if_true]
              refine ⟨fun _ => ?_, by simp⟩
              have : decide ((t.length : Int) ≤ p) = false := by simp; omega
              simp [this]
            · simp only [ht0, hp, or_self, if_false]
              refine ⟨by simp, ?_⟩
              intro wh fr h
              simp only [Option.some.injEq, Prod.mk.injEq] at h
              refine ⟨by simp [hne, ht0, hta], fun _ => ⟨by omega, h.2.symm⟩, by simp, h.1.symm⟩
        · have hta : allDig t = false := by
            rw [Bool.eq_false_iff]; intro e; exact hr (allDig_dR e)
          simp only [hr, not_false_eq_true, true_or, if_true]
          refine ⟨fun _ => by simp [hta], by simp⟩
    · have hnc : notDot c = true := by unfold notDot; simpa using h46
      have e1 : sInt b = dI b ++ c :: t.takeWhile notDot := by
        unfold sInt; conv => lhs; rw [hb]
        rw [List.takeWhile_append_of_pos hn]
        simp [hnc]
      have e2 : sOk b = false := by
        unfold sOk; rw [e1, allDig_append, allDig_cons, hc]; simp
      unfold pdB
      rw [hR, e2]
      by_cases h0 : dI b = []
      · simp [h0]
      · simp [h0, h46]

end Go.Proofs.Qxb6001398a.Plain
