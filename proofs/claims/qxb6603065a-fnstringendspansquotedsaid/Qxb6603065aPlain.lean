/-
  Seat b6603065a: quoting, and where a quoted string ends, on lists of bytes. No Go in sight.
-/
namespace Go.Proofs.Qxb6603065a.Sj

def hex (n : UInt8) : UInt8 := if n.toNat < 10 then 48 + n else 97 + n - 10

/-- What the law's quoting makes of one byte. -/
def esc1 (b : UInt8) : List UInt8 :=
  if b = 34 ∨ b = 92 then [92, b] else if b.toNat < 32 then [92, 117, 48, 48, hex (b >>> 4), hex (b &&& 15)] else [b]

def body : List UInt8 → List UInt8
  | [] => []
  | b :: l => esc1 b ++ body l

def quote (s : List UInt8) : List UInt8 := 34 :: (body s ++ [34])

theorem body_append : ∀ a b : List UInt8, body (a ++ b) = body a ++ body b
  | [], b => rfl
  | c :: a, b => by
    rw [List.cons_append, body, body, body_append a b, List.append_assoc]

theorem esc1_le (b : UInt8) : (esc1 b).length ≤ 6 := by
  unfold esc1
  split
  · simp
  · split <;> simp

theorem body_le : ∀ l : List UInt8, (body l).length ≤ 6 * l.length
  | [] => by simp [body]
  | b :: l => by
    have := body_le l
    have := esc1_le b
    rw [body]
    simp only [List.length_append, List.length_cons]
    omega

theorem hex_shift : ∀ b : Fin 32, hex ((UInt8.ofNat b.val) >>> 4) ≠ 34 ∧ hex ((UInt8.ofNat b.val) >>> 4) ≠ 92 ∧ hex ((UInt8.ofNat b.val) &&& 15) ≠ 34 ∧ hex ((UInt8.ofNat b.val) &&& 15) ≠ 92 := by decide

theorem hex_ctl (b : UInt8) (h : b.toNat < 32) : hex (b >>> 4) ≠ 34 ∧ hex (b >>> 4) ≠ 92 ∧ hex (b &&& 15) ≠ 34 ∧ hex (b &&& 15) ≠ 92 := by
  have := hex_shift ⟨b.toNat, h⟩
  simpa using this

/-- No quote stands in what is made of a byte that is none. -/
theorem esc1_no (b : UInt8) (h : b ≠ 34) : (34 : UInt8) ∉ esc1 b := by
  unfold esc1
  by_cases h1 : b = 34 ∨ b = 92
  · rw [if_pos h1]
    rcases h1 with h1 | h1
    · exact absurd h1 h
    · subst h1; decide
  · rw [if_neg h1]
    by_cases h2 : b.toNat < 32
    · rw [if_pos h2]
      have hh := hex_ctl b h2
      simp only [List.mem_cons, List.not_mem_nil, or_false, not_or]
      exact ⟨by decide, by decide, by decide, by decide, fun e => hh.1 e.symm, fun e => hh.2.2.1 e.symm⟩
    · rw [if_neg h2]
      simpa using fun e => h e.symm

theorem body_no : ∀ l : List UInt8, (34 : UInt8) ∉ l → (34 : UInt8) ∉ body l
  | [], _ => by simp [body]
  | b :: l, h => by
    rw [body, List.mem_append]
    rintro (e | e)
    · exact esc1_no b (fun e' => h (by simp [e'])) e
    · exact body_no l (fun e' => h (by simp [e'])) e

/-! ### How many backslashes stand at the end -/

def lead : List UInt8 → Nat
  | [] => 0
  | c :: l => if c = 92 then lead l + 1 else 0

def tr (l : List UInt8) : Nat := lead l.reverse

theorem tr_snoc (l : List UInt8) (c : UInt8) : tr (l ++ [c]) = if c = 92 then tr l + 1 else 0 := by
  unfold tr
  rw [List.reverse_append]
  rfl

theorem lead_le : ∀ l : List UInt8, lead l ≤ l.length
  | [] => Nat.le_refl _
  | c :: l => by
    have := lead_le l
    rw [lead]
    split <;> simp <;> omega

theorem lead_get : ∀ (l : List UInt8) (m : Nat) (h : m < l.length), (m < lead l → l[m] = 92) ∧ (m = lead l → l[m] ≠ 92)
  | [], m, h => by simp at h
  | c :: l, m, h => by
    rw [lead]
    by_cases hc : c = 92
    · rw [if_pos hc]
      cases m with
      | zero => exact ⟨fun _ => hc, fun e => by omega⟩
      | succ m =>
        have ih := lead_get l m (by simpa using h)
        exact ⟨fun e => by simpa using ih.1 (by omega), fun e => by simpa using ih.2 (by omega)⟩
    · rw [if_neg hc]
      exact ⟨fun e => by omega, fun e => by subst e; exact hc⟩

theorem tr_get (l : List UInt8) (m : Nat) (h : m < l.length) : (m < tr l → l[l.length - 1 - m]'(by omega) = 92) ∧ (m = tr l → l[l.length - 1 - m]'(by omega) ≠ 92) := by
  have hg := lead_get l.reverse m (by simpa using h)
  have e : l.reverse[m]'(by simpa using h) = l[l.length - 1 - m]'(by omega) := List.getElem_reverse _
  rw [e] at hg
  exact hg

/-- Behind whole units the backslashes at the end are even in number. -/
theorem tr_even (P : List UInt8) : ∀ (n : Nat) (x : List UInt8), x.length = n → tr (P ++ 34 :: body x) % 2 = 0 := by
  intro n
  induction n with
  | zero =>
    intro x hx
    have : x = [] := List.length_eq_zero_iff.1 hx
    subst this
    rw [body, tr_snoc]
    rfl
  | succ n ih =>
    intro x hx
    obtain ⟨y, b, rfl⟩ : ∃ y b, x = y ++ [b] := by
      rcases List.eq_nil_or_concat x with h | ⟨y, b, h⟩
      · subst h; simp at hx
      · exact ⟨y, b, by simpa using h⟩
    have hy := ih y (by simp at hx; exact hx)
    have e : P ++ 34 :: body (y ++ [b]) = (P ++ 34 :: body y) ++ esc1 b := by
      rw [body_append]
      simp [body]
    rw [e]
    unfold esc1
    by_cases h1 : b = 34 ∨ b = 92
    · rw [if_pos h1]
      have e2 : (P ++ 34 :: body y) ++ [92, b] = ((P ++ 34 :: body y) ++ [92]) ++ [b] := by simp
      rw [e2, tr_snoc, tr_snoc]
      rcases h1 with h1 | h1
      · subst h1; rfl
      · subst h1
        rw [if_pos rfl, if_pos rfl]; omega
    · rw [if_neg h1]
      by_cases h2 : b.toNat < 32
      · rw [if_pos h2]
        have e2 : (P ++ 34 :: body y) ++ [92, 117, 48, 48, hex (b >>> 4), hex (b &&& 15)] = ((P ++ 34 :: body y) ++ [92, 117, 48, 48, hex (b >>> 4)]) ++ [hex (b &&& 15)] := by simp
        rw [e2, tr_snoc, if_neg (hex_ctl b h2).2.2.2]
      · rw [if_neg h2, tr_snoc, if_neg (fun e' => h1 (.inr e'))]

theorem tr_odd (P x : List UInt8) : tr (P ++ 34 :: (body x ++ [92])) % 2 = 1 := by
  have e : P ++ 34 :: (body x ++ [92]) = (P ++ 34 :: body x) ++ [92] := by simp
  have := tr_even P x.length x rfl
  rw [e, tr_snoc, if_pos rfl]
  omega

/-- The first quote in a list, split off. -/
theorem split_quote : ∀ l : List UInt8, (34 : UInt8) ∈ l → ∃ a b, l = a ++ 34 :: b ∧ (34 : UInt8) ∉ a
  | [], h => by cases h
  | c :: l, h => by
    by_cases hc : c = 34
    · subst hc; exact ⟨[], l, rfl, by simp⟩
    · have hl : (34 : UInt8) ∈ l := by
        rcases List.mem_cons.1 h with e | e
        · exact absurd e.symm hc
        · exact e
      obtain ⟨a, b, e, hn⟩ := split_quote l hl
      exact ⟨c :: a, b, by rw [e]; rfl, by simp [hn, Ne.symm hc]⟩

end Go.Proofs.Qxb6603065a.Sj
