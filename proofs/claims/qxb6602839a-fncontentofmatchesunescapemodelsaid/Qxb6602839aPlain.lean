/-
  Seat b6602839a: the plain functions on lists of bytes, and their laws. No Go in sight.
-/
namespace Go.Proofs.Qxb6602839a.Cnt

/-- What contentOf makes of the bytes between the quotes. -/
def unesc : List UInt8 → List UInt8
  | [] => []
  | [c] => [c]
  | c :: d :: l => if c = 92 then d :: unesc l else c :: unesc (d :: l)

/-- What the law's automaton makes of them; the flag: the byte before was a backslash that escapes. -/
def esc : Bool → List UInt8 → List UInt8
  | false, [] => []
  | true, [] => [92]
  | true, c :: l => c :: esc false l
  | false, c :: l => if c = 92 then esc true l else c :: esc false l

/-- The law's quoting of the inside. -/
def quo : List UInt8 → List UInt8
  | [] => []
  | c :: l => if c = 34 ∨ c = 92 then 92 :: c :: quo l else c :: quo l

theorem unesc_one (c : UInt8) : unesc [c] = [c] := rfl
theorem unesc_esc (d : UInt8) (l : List UInt8) : unesc (92 :: d :: l) = d :: unesc l := by simp [unesc]
theorem unesc_plain (c : UInt8) (l : List UInt8) (h : c ≠ 92) : unesc (c :: l) = c :: unesc l := by
  cases l with
  | nil => rfl
  | cons d l => simp [unesc, h]

theorem esc_unesc (n : Nat) : ∀ l : List UInt8, l.length ≤ n → esc false l = unesc l := by
  induction n with
  | zero => intro l h; have : l = [] := List.length_eq_zero_iff.1 (by omega); subst this; rfl
  | succ n ih =>
    intro l h
    match l with
    | [] => rfl
    | [c] => by_cases hc : c = 92 <;> simp [esc, unesc, hc]
    | c :: d :: l =>
      simp only [List.length_cons] at h
      by_cases hc : c = 92
      · subst hc
        rw [unesc_esc, esc, if_pos rfl, esc, ih l (by omega)]
      · rw [unesc_plain _ _ hc, esc, if_neg hc, ih (d :: l) (by simp; omega)]

theorem unesc_none : ∀ l : List UInt8, (92 : UInt8) ∉ l → unesc l = l
  | [], _ => rfl
  | c :: l, h => by
    rw [unesc_plain c l (by intro e; apply h; simp [e]), unesc_none l (by intro e; apply h; simp [e])]

theorem unesc_quo : ∀ l : List UInt8, unesc (quo l) = l
  | [] => rfl
  | c :: l => by
    by_cases hc : c = 34 ∨ c = 92
    · rw [quo, if_pos hc, unesc_esc, unesc_quo l]
    · rw [quo, if_neg hc, unesc_plain _ _ (by intro e; exact hc (.inr e)), unesc_quo l]

theorem quo_length : ∀ l : List UInt8, (quo l).length ≤ 2 * l.length
  | [] => by simp [quo]
  | c :: l => by
    have := quo_length l
    by_cases hc : c = 34 ∨ c = 92
    · rw [quo, if_pos hc]; simp; omega
    · rw [quo, if_neg hc]; simp; omega

theorem quo_append : ∀ a b : List UInt8, quo (a ++ b) = quo a ++ quo b
  | [], b => rfl
  | c :: l, b => by
    by_cases hc : c = 34 ∨ c = 92
    · simp only [List.cons_append, quo, if_pos hc, quo_append l b]
    · simp only [List.cons_append, quo, if_neg hc, quo_append l b]

/-- What contentOf makes of a value. -/
def content (l : List UInt8) : List UInt8 :=
  if l.length < 2 ∨ l.headD 0 ≠ 34 then l else unesc ((l.drop 1).take (l.length - 2))

theorem content_quoted (x : List UInt8) : content (34 :: (quo x ++ [34])) = x := by
  unfold content
  rw [if_neg (by simp)]
  have : ((34 :: (quo x ++ [34])).drop 1).take ((34 :: (quo x ++ [34])).length - 2) = quo x := by simp
  rw [this, unesc_quo]

end Go.Proofs.Qxb6602839a.Cnt
