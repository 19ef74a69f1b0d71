/-
  THE PLAIN MATHEMATICS OF SEAT b6001559a: an encoder of JSON strings and the scan for a string's end, on lists of bytes (as integers). No Go in sight.
-/
import Derived.RowKit
namespace Go.Proofs.Qxb6001559a.Plain

def hexD (v : Int) : Int := if v < 10 then 48 + v else 97 + v - 10

/-- What the encoder writes for one byte. -/
def unit (esc : Bool) (c : Int) : List Int :=
  if c = 34 ∨ c = 92 then [92, c]
  else if c = 47 ∧ esc = true then [92, 47]
  else if c = 10 then [92, 110]
  else if c = 13 then [92, 114]
  else if c = 9 then [92, 116]
  else if c = 8 then [92, 98]
  else if c = 12 then [92, 102]
  else if c < 32 then [92, 117, 48, 48, hexD (c / 16), hexD (c % 16)]
  else [c]

def body (esc : Bool) (l : List Int) : List Int := l.flatMap (unit esc)

/-- The place just past the closing quote: the text from place i on. -/
def se : List Int → Nat → Option Nat
  | [], _ => none
  | [c], i => if c = 92 then none else if c = 34 then some (i + 1) else none
  | c :: d :: l, i => if c = 92 then se l (i + 2) else if c = 34 then some (i + 1) else se (d :: l) (i + 1)

theorem se_plain (c : Int) (l : List Int) (i : Nat) (h1 : c ≠ 92) (h2 : c ≠ 34) : se (c :: l) i = se l (i + 1) := by
  cases l with
  | nil => simp [se, h1, h2]
  | cons d l => simp [se, h1, h2]
theorem se_esc (d : Int) (l : List Int) (i : Nat) : se (92 :: d :: l) i = se l (i + 2) := by simp [se]
theorem se_quote (l : List Int) (i : Nat) : se (34 :: l) i = some (i + 1) := by
  cases l with
  | nil => simp [se]
  | cons d l => simp [se]

theorem hexD_ok (v : Int) (h0 : 0 ≤ v) (h1 : v < 16) : hexD v ≠ 92 ∧ hexD v ≠ 34 := by
  unfold hexD; split <;> omega

theorem se_unit (esc : Bool) (c : Int) (h0 : 0 ≤ c) (l : List Int) (i : Nat) : se (unit esc c ++ l) i = se l (i + (unit esc c).length) := by
  unfold unit
  split
  · simp [se_esc]
  split
  · simp [se_esc]
  split
  · simp [se_esc]
  split
  · simp [se_esc]
  split
  · simp [se_esc]
  split
  · simp [se_esc]
  split
  · simp [se_esc]
  split
  · rename_i h
    have g1 := hexD_ok (c / 16) (by omega) (by omega)
    have g2 := hexD_ok (c % 16) (by omega) (by omega)
    simp only [List.cons_append, List.nil_append]
    rw [se_esc, se_plain _ _ _ (by omega) (by omega), se_plain _ _ _ (by omega) (by omega), se_plain _ _ _ g1.1 g1.2, se_plain _ _ _ g2.1 g2.2]
    simp
  · rename_i h _ _ _ _ _ _ _
    have h1 : c ≠ 92 := fun e => h (Or.inr e)
    have h2 : c ≠ 34 := fun e => h (Or.inl e)
    simp only [List.cons_append, List.nil_append]
    rw [se_plain _ _ _ h1 h2]; simp

theorem se_body (esc : Bool) : ∀ (l : List Int), (∀ c ∈ l, 0 ≤ c) → ∀ (suf : List Int) (i : Nat), se (body esc l ++ 34 :: suf) i = some (i + (body esc l).length + 1)
  | [], _, suf, i => by simp [body, se_quote]
  | c :: l, h, suf, i => by
    have ih := se_body esc l (fun x hx => h x (by simp [hx])) suf
    have e : body esc (c :: l) = unit esc c ++ body esc l := rfl
    rw [e, List.append_assoc, se_unit esc c (h c (by simp)), ih, List.length_append]
    congr 1
    omega

theorem unit_len (esc : Bool) (c : Int) : (unit esc c).length ≤ 6 := by
  unfold unit
  repeat' split
  all_goals simp
theorem body_snoc (esc : Bool) (l : List Int) (c : Int) : body esc (l ++ [c]) = body esc l ++ unit esc c := by simp [body]
theorem body_len (esc : Bool) : ∀ l, (body esc l).length ≤ 6 * l.length
  | [] => by simp [body]
  | c :: l => by
    have ih := body_len esc l
    have h := unit_len esc c
    have e : body esc (c :: l) = unit esc c ++ body esc l := rfl
    rw [e, List.length_append, List.length_cons]
    omega

/-- The scan inside the data: where it stands. -/
theorem se_lt {d : List Int} {i r : Nat} (h : se (d.drop i) i = some r) : i < d.length := by
  rcases Nat.lt_or_ge i d.length with g | g
  · exact g
  · rw [List.drop_of_length_le g] at h; cases h
theorem se_step {d : List Int} {i r : Nat} (hi : i < d.length) (h : se (d.drop i) i = some r) :
    (d[i] = 92 → se (d.drop (i + 2)) (i + 2) = some r) ∧ (d[i] = 34 → r = i + 1) ∧ (d[i] ≠ 92 → d[i] ≠ 34 → se (d.drop (i + 1)) (i + 1) = some r) := by
  rw [List.drop_eq_getElem_cons hi] at h
  refine ⟨fun e => ?_, fun e => ?_, fun e1 e2 => ?_⟩
  · rw [e] at h
    rcases Nat.lt_or_ge (i + 1) d.length with g | g
    · rw [List.drop_eq_getElem_cons g, se_esc] at h; exact h
    · rw [List.drop_of_length_le g] at h; simp [se] at h
  · rw [e, se_quote] at h; simpa using h.symm
  · rw [se_plain _ _ _ e1 e2] at h; exact h

end Go.Proofs.Qxb6001559a.Plain
