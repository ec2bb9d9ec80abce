/-
  Seat b6602896a: the plain functions of isAuthority and of the law's own model, and that the two agree. No Go in sight.
-/
namespace Go.Proofs.Qxb6602896a.Url

/-- The bytes that an authority may not hold. -/
def refusedA : List UInt8 := [34, 60, 62, 92, 94, 96, 123, 124, 125]
def okByte (ref : List UInt8) (c : UInt8) : Bool := decide (32 < c.toNat) && decide (c.toNat ≤ 126) && !ref.contains c
def holds (ref l : List UInt8) : Bool := l.all (okByte ref)
def endsAt (l : List UInt8) : Bool := l.getLast? == some 64

/-- The scan of isAuthority, from a state on: the bracket's state, the colons of this run, whether it holds a percent sign. -/
def scan : List UInt8 → Nat → Nat → Bool → Bool
  | [], br, co, pc => decide (br ≠ 1) && decide (co ≤ 1) && !pc
  | c :: l, br, co, pc =>
    if c = 58 then (if 8 < co + 1 then false else scan l br (co + 1) pc)
    else if c = 37 then scan l br co true
    else if c = 91 then (if br ≠ 0 ∨ pc = true then false else scan l 1 co pc)
    else if c = 93 then (if br ≠ 1 then false else scan l 2 0 false)
    else if c = 64 then scan l br 0 false
    else scan l br co pc

def isAuth (l : List UInt8) : Bool := holds refusedA l && !endsAt l && scan l 0 0 false

/-! ### The law's own model -/

def seg (L : List UInt8) (a b : Nat) : List UInt8 := (L.drop a).take (b - a)

/-- The last place below k at which c stands; -1 if there is none. -/
def lastPos (c : UInt8) (L : List UInt8) : Nat → Int
  | 0 => -1
  | k + 1 => if L[k]? = some c then (k : Int) else lastPos c L k

/-- The run-by-run check from place i on (the first argument: how many rounds are left). -/
def runs (L : List UInt8) (po : Int) : Nat → Nat → Nat → Bool
  | 0, _, _ => true
  | f + 1, i, st =>
    if i < L.length ∧ L[i]? ≠ some 64 ∧ L[i]? ≠ some 93 then runs L po f (i + 1) st
    else if 8 < (seg L st i).count 58 then false
    else if (st : Int) ≤ po ∧ po < (i : Int) ∧ 0 < (seg L st po.toNat).count 37 then false
    else if i = L.length ∧ (1 < (seg L st i).count 58 ∨ 0 < (seg L st i).count 37) then false
    else runs L po f (i + 1) (i + 1)

def brOk (L : List UInt8) : Bool :=
  decide (L.count 91 = 0 ∧ L.count 93 = 0) || decide (L.count 91 = 1 ∧ L.count 93 = 1 ∧ lastPos 91 L L.length < lastPos 93 L L.length)

def authModel (L : List UInt8) : Bool :=
  holds refusedA L && !endsAt L && brOk L && runs L (lastPos 91 L L.length) (L.length + 1) 0 0

/-! ### Segments -/

theorem seg_self (L : List UInt8) (a : Nat) : seg L a a = [] := by simp [seg]

theorem seg_snoc (L : List UInt8) (a i : Nat) (ha : a ≤ i) (hi : i < L.length) : seg L a (i + 1) = seg L a i ++ [L[i]] := by
  unfold seg
  have e : i + 1 - a = (i - a) + 1 := by omega
  rw [e, List.take_succ_eq_append_getElem (by simp; omega)]
  congr 2
  simp only [List.getElem_drop]
  congr 1
  omega

theorem get_some (L : List UInt8) (i : Nat) (hi : i < L.length) : L[i]? = some L[i] := List.getElem?_eq_getElem hi

/-! ### A run that is bad stays bad -/

theorem runs_colons (L : List UInt8) (po : Int) : ∀ (f i st : Nat), i + f = L.length + 1 → 0 < f → st ≤ i → 8 < (seg L st i).count 58 → runs L po f i st = false := by
  intro f
  induction f with
  | zero => intro i st _ h0; omega
  | succ f ih =>
    intro i st hf _ hst h8
    unfold runs
    by_cases hc : i < L.length ∧ L[i]? ≠ some 64 ∧ L[i]? ≠ some 93
    · rw [if_pos hc]
      apply ih (i + 1) st (by omega) (by omega) (by omega)
      rw [seg_snoc L st i hst hc.1, List.count_append]
      omega
    · rw [if_neg hc, if_pos h8]

theorem runs_percent (L : List UInt8) (po : Int) : ∀ (f i st : Nat), i + f = L.length + 1 → 0 < f → (st : Int) ≤ po → po < (i : Int) → 0 < (seg L st po.toNat).count 37 → runs L po f i st = false := by
  intro f
  induction f with
  | zero => intro i st _ h0; omega
  | succ f ih =>
    intro i st hf _ h1 h2 h3
    unfold runs
    by_cases hc : i < L.length ∧ L[i]? ≠ some 64 ∧ L[i]? ≠ some 93
    · rw [if_pos hc]
      exact ih (i + 1) st (by omega) (by omega) h1 (by omega) h3
    · rw [if_neg hc]
      by_cases h8 : 8 < (seg L st i).count 58
      · rw [if_pos h8]
      · rw [if_neg h8, if_pos ⟨h1, h2, h3⟩]

/-! ### Where the brackets stand -/

theorem lastPos_spec (c : UInt8) (L : List UInt8) : ∀ k : Nat, k ≤ L.length →
    (lastPos c L k = -1 ∧ ∀ i, i < k → L[i]? ≠ some c) ∨ (∃ p : Nat, lastPos c L k = (p : Int) ∧ p < k ∧ L[p]? = some c)
  | 0, _ => .inl ⟨rfl, fun i h => by omega⟩
  | k + 1, hk => by
    unfold lastPos
    by_cases h : L[k]? = some c
    · rw [if_pos h]; exact .inr ⟨k, rfl, by omega, h⟩
    · rw [if_neg h]
      rcases lastPos_spec c L k (by omega) with ⟨h1, h2⟩ | ⟨p, h1, h2, h3⟩
      · refine .inl ⟨h1, fun i hi => ?_⟩
        by_cases e : i = k
        · subst e; exact h
        · exact h2 i (by omega)
      · exact .inr ⟨p, h1, by omega, h3⟩

theorem count_zero_get (c : UInt8) (L : List UInt8) (h : L.count c = 0) (i : Nat) : L[i]? ≠ some c := by
  intro e
  exact List.count_eq_zero.1 h (List.mem_of_getElem? e)

theorem count_two (c : UInt8) (L : List UInt8) (i j : Nat) (hij : i < j) (hi : L[i]? = some c) (hj : L[j]? = some c) : 2 ≤ L.count c := by
  have e : L.count c = (L.take j).count c + (L.drop j).count c := by
    rw [← List.count_append, List.take_append_drop]
  have h1 : c ∈ L.take j := by
    apply List.mem_of_getElem? (i := i)
    rw [List.getElem?_take, if_pos hij]; exact hi
  have h2 : c ∈ L.drop j := by
    apply List.mem_of_getElem? (i := 0)
    rw [List.getElem?_drop]; simpa using hj
  have := List.count_pos_iff.2 h1
  have := List.count_pos_iff.2 h2
  omega

theorem count_one_pos (c : UInt8) (L : List UInt8) (h : L.count c = 1) :
    ∃ p : Nat, lastPos c L L.length = (p : Int) ∧ p < L.length ∧ L[p]? = some c ∧ ∀ i, L[i]? = some c → i = p := by
  rcases lastPos_spec c L L.length (Nat.le_refl _) with ⟨_, h2⟩ | ⟨p, h1, h2, h3⟩
  · have hm : c ∈ L := List.count_pos_iff.1 (by omega)
    obtain ⟨i, hi⟩ := List.mem_iff_getElem?.1 hm
    have hlt : i < L.length := (List.getElem?_eq_some_iff.1 hi).1
    exact absurd hi (h2 i hlt)
  · refine ⟨p, h1, h2, h3, fun i hi => ?_⟩
    rcases Nat.lt_trichotomy i p with hl | hl | hl
    · have := count_two c L i p hl hi h3; omega
    · exact hl
    · have := count_two c L p i hl h3 hi; omega

/-- Where the scan says yes, the brackets are in order. -/
theorem scan_brackets : ∀ (l : List UInt8) (br co : Nat) (pc : Bool), scan l br co pc = true →
    (br = 0 → (l.count 91 = 0 ∧ l.count 93 = 0) ∨ (l.count 91 = 1 ∧ l.count 93 = 1 ∧ ∃ a b, l = a ++ 91 :: b ∧ a.count 93 = 0)) ∧
    (br = 1 → l.count 91 = 0 ∧ l.count 93 = 1) ∧ (br = 2 → l.count 91 = 0 ∧ l.count 93 = 0)
  | [], br, co, pc, h => by
    simp [scan] at h
    refine ⟨fun _ => .inl ⟨rfl, rfl⟩, fun e => absurd e h.1.1, fun _ => ⟨rfl, rfl⟩⟩
  | c :: l, br, co, pc, h => by
    have plain : c ≠ 91 → c ≠ 93 → ∀ co' pc', scan l br co' pc' = true →
        (br = 0 → ((c :: l).count 91 = 0 ∧ (c :: l).count 93 = 0) ∨ ((c :: l).count 91 = 1 ∧ (c :: l).count 93 = 1 ∧ ∃ a b, c :: l = a ++ 91 :: b ∧ a.count 93 = 0)) ∧
        (br = 1 → (c :: l).count 91 = 0 ∧ (c :: l).count 93 = 1) ∧ (br = 2 → (c :: l).count 91 = 0 ∧ (c :: l).count 93 = 0) := by
      intro h1 h3 co' pc' hs
      have ih := scan_brackets l br co' pc' hs
      have e1 : (c :: l).count 91 = l.count 91 := List.count_cons_of_ne (by simpa using h1)
      have e3 : (c :: l).count 93 = l.count 93 := List.count_cons_of_ne (by simpa using h3)
      rw [e1, e3]
      refine ⟨fun e => ?_, ih.2.1, ih.2.2⟩
      rcases ih.1 e with h | ⟨h1', h2', a, b, h3', h4'⟩
      · exact .inl h
      · refine .inr ⟨h1', h2', c :: a, b, by rw [h3']; rfl, ?_⟩
        rw [List.count_cons_of_ne (by simpa using h3)]; exact h4'
    unfold scan at h
    by_cases h58 : c = 58
    · rw [if_pos h58] at h
      subst h58
      by_cases h8 : 8 < co + 1
      · rw [if_pos h8] at h; cases h
      · rw [if_neg h8] at h; exact plain (by decide) (by decide) _ _ h
    rw [if_neg h58] at h
    by_cases h37 : c = 37
    · rw [if_pos h37] at h
      subst h37
      exact plain (by decide) (by decide) _ _ h
    rw [if_neg h37] at h
    by_cases h91 : c = 91
    · rw [if_pos h91] at h
      subst h91
      by_cases hb : br ≠ 0 ∨ pc = true
      · rw [if_pos hb] at h; cases h
      · rw [if_neg hb] at h
        have hbr : br = 0 := by
          rcases Nat.eq_zero_or_pos br with e | e
          · exact e
          · exact absurd (.inl (by omega)) hb
        have ih := (scan_brackets l 1 co pc h).2.1 rfl
        refine ⟨fun _ => .inr ⟨?_, ?_, [], l, rfl, rfl⟩, fun e => by omega, fun e => by omega⟩
        · rw [List.count_cons_self]; omega
        · rw [List.count_cons_of_ne (by decide)]; exact ih.2
    rw [if_neg h91] at h
    by_cases h93 : c = 93
    · rw [if_pos h93] at h
      subst h93
      by_cases hb : br ≠ 1
      · rw [if_pos hb] at h; cases h
      · rw [if_neg hb] at h
        have hbr : br = 1 := by omega
        have ih := (scan_brackets l 2 0 false h).2.2 rfl
        refine ⟨fun e => by omega, fun _ => ⟨?_, ?_⟩, fun e => by omega⟩
        · rw [List.count_cons_of_ne (by decide)]; exact ih.1
        · rw [List.count_cons_self]; omega
    rw [if_neg h93] at h
    by_cases h64 : c = 64
    · rw [if_pos h64] at h; exact plain h91 h93 _ _ h
    · rw [if_neg h64] at h; exact plain h91 h93 _ _ h

theorem scan_brOk (L : List UInt8) (h : scan L 0 0 false = true) : brOk L = true := by
  unfold brOk
  rcases (scan_brackets L 0 0 false h).1 rfl with h0 | ⟨h1, h3, a, b, hL, ha⟩
  · simp [h0]
  · have hlt : lastPos 91 L L.length < lastPos 93 L L.length := by
      obtain ⟨p, e1, _, _, u1⟩ := count_one_pos 91 L h1
      obtain ⟨q, e3, q3, g3, _⟩ := count_one_pos 93 L h3
      have hp : a.length = p := u1 a.length (by rw [hL]; simp)
      rw [e1, e3]
      have hq : p < q := by
        rcases Nat.lt_trichotomy q p with hl | hl | hl
        · have hg : a[q]? = some 93 := by
            rw [hL, List.getElem?_append_left (by omega)] at g3; exact g3
          exact absurd hg (count_zero_get 93 a ha q)
        · rw [hl, ← hp, hL] at g3
          simp at g3
        · exact hl
      omega
    simp [h1, h3, hlt]

end Go.Proofs.Qxb6602896a.Url
