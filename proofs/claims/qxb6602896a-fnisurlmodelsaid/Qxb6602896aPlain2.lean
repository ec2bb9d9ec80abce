/-
  Seat b6602896a: the scan of isAuthority agrees with the law's run-by-run model. No Go in sight.
-/
import Derived.Test.Qxb6602896aPlain1
namespace Go.Proofs.Qxb6602896a.Url

/-- The bracket's state at place i, where the brackets stand at po and pc (both -1: none). -/
def brAt (po pc : Int) (i : Nat) : Nat := if po = -1 then 0 else if (i : Int) ≤ po then 0 else if (i : Int) ≤ pc then 1 else 2

theorem brAt_same (po pc : Int) (i : Nat) (h1 : ¬ (i : Int) = po) (h2 : ¬ (i : Int) = pc) : brAt po pc (i + 1) = brAt po pc i := by
  unfold brAt
  by_cases a : po = -1
  · rw [if_pos a, if_pos a]
  · rw [if_neg a, if_neg a]
    by_cases b : (i : Int) ≤ po
    · rw [if_pos b, if_pos (by omega)]
    · rw [if_neg b, if_neg (by omega)]
      by_cases c : (i : Int) ≤ pc
      · rw [if_pos c, if_pos (by omega)]
      · rw [if_neg c, if_neg (by omega)]

/-- The brackets of L stand at po and pc, in order, or there are none. -/
structure Brackets (L : List UInt8) (po pc : Int) : Prop where
  open_at : ∀ i : Nat, L[i]? = some 91 ↔ (i : Int) = po
  close_at : ∀ i : Nat, L[i]? = some 93 ↔ (i : Int) = pc
  order : (po = -1 ∧ pc = -1) ∨ (0 ≤ po ∧ po < pc ∧ pc < (L.length : Int))

theorem runs_go (L : List UInt8) (po : Int) (f i st : Nat) (hi : i < L.length) (h64 : L[i] ≠ 64) (h93 : L[i] ≠ 93) : runs L po (f + 1) i st = runs L po f (i + 1) st := by
  have hg := get_some L i hi
  rw [runs, if_pos ⟨hi, by rw [hg]; simpa using h64, by rw [hg]; simpa using h93⟩]

theorem runs_sep (L : List UInt8) (po : Int) (f i st : Nat) (hi : i < L.length) (hs : L[i] = 64 ∨ L[i] = 93) (h8 : (seg L st i).count 58 ≤ 8)
    (hp : (st : Int) ≤ po → po < (i : Int) → (seg L st po.toNat).count 37 = 0) : runs L po (f + 1) i st = runs L po f (i + 1) (i + 1) := by
  have hg := get_some L i hi
  rw [runs, if_neg, if_neg (by omega), if_neg, if_neg]
  · rintro ⟨e, _⟩; omega
  · rintro ⟨a, b, c⟩; have := hp a b; omega
  · rintro ⟨_, a, b⟩
    rw [hg] at a b
    rcases hs with h | h
    · rw [h] at a; exact a rfl
    · rw [h] at b; exact b rfl

theorem count_other (c d : UInt8) (l : List UInt8) (h : d ≠ c) : (l ++ [d]).count c = l.count c := by
  rw [List.count_append, List.count_singleton]
  simp [h]

theorem count_same (c : UInt8) (l : List UInt8) : (l ++ [c]).count c = l.count c + 1 := by
  rw [List.count_append, List.count_singleton]
  simp

theorem scan_runs (L : List UInt8) (po pc : Int) (B : Brackets L po pc) : ∀ (f i st : Nat), i + f = L.length + 1 → 0 < f → st ≤ i →
    (seg L st i).count 58 ≤ 8 → ((st : Int) ≤ po → po < (i : Int) → (seg L st po.toNat).count 37 = 0) →
    scan (L.drop i) (brAt po pc i) ((seg L st i).count 58) (decide (0 < (seg L st i).count 37)) = runs L po f i st := by
  intro f
  induction f with
  | zero => intro i st _ h0; omega
  | succ f ih =>
    intro i st hf _ hst h8 hpct
    by_cases hi : i < L.length
    · have hc := List.drop_eq_getElem_cons hi
      have hg := get_some L i hi
      have hsn := seg_snoc L st i hst hi
      rw [hc]
      by_cases h58 : L[i] = 58
      · have n1 : ¬ (i : Int) = po := fun e => by rw [← B.open_at, hg, h58] at e; cases e
        have n2 : ¬ (i : Int) = pc := fun e => by rw [← B.close_at, hg, h58] at e; cases e
        rw [runs_go L po f i st hi (by rw [h58]; decide) (by rw [h58]; decide), scan, if_pos h58]
        have e58 : (seg L st (i + 1)).count 58 = (seg L st i).count 58 + 1 := by rw [hsn, h58, count_same]
        have e37 : (seg L st (i + 1)).count 37 = (seg L st i).count 37 := by rw [hsn, h58, count_other _ _ _ (by decide)]
        by_cases h9 : 8 < (seg L st i).count 58 + 1
        · rw [if_pos h9]
          exact (runs_colons L po f (i + 1) st (by omega) (by omega) (by omega) (by omega)).symm
        · rw [if_neg h9, ← ih (i + 1) st (by omega) (by omega) (by omega) (by omega) (fun a b => hpct a (by omega)), brAt_same po pc i n1 n2, e58, e37]
      by_cases h37 : L[i] = 37
      · have n1 : ¬ (i : Int) = po := fun e => by rw [← B.open_at, hg, h37] at e; cases e
        have n2 : ¬ (i : Int) = pc := fun e => by rw [← B.close_at, hg, h37] at e; cases e
        have e58 : (seg L st (i + 1)).count 58 = (seg L st i).count 58 := by rw [hsn, h37, count_other _ _ _ (by decide)]
        have e37 : (seg L st (i + 1)).count 37 = (seg L st i).count 37 + 1 := by rw [hsn, h37, count_same]
        rw [runs_go L po f i st hi (by rw [h37]; decide) (by rw [h37]; decide), scan, if_neg h58, if_pos h37,
          ← ih (i + 1) st (by omega) (by omega) (by omega) (by omega) (fun a b => hpct a (by omega)), brAt_same po pc i n1 n2, e58, e37]
        simp
      by_cases h91 : L[i] = 91
      · have n1 : (i : Int) = po := (B.open_at i).1 (by rw [hg, h91])
        have e58 : (seg L st (i + 1)).count 58 = (seg L st i).count 58 := by rw [hsn, h91, count_other _ _ _ (by decide)]
        have e37 : (seg L st (i + 1)).count 37 = (seg L st i).count 37 := by rw [hsn, h91, count_other _ _ _ (by decide)]
        have ord := B.order
        have b0 : brAt po pc i = 0 := by unfold brAt; rw [if_neg (by omega), if_pos (by omega)]
        have b1 : brAt po pc (i + 1) = 1 := by unfold brAt; rw [if_neg (by omega), if_neg (by omega), if_pos (by omega)]
        have hpn : po.toNat = i := by omega
        rw [runs_go L po f i st hi (by rw [h91]; decide) (by rw [h91]; decide), scan, if_neg h58, if_neg h37, if_pos h91, b0]
        by_cases hz : 0 < (seg L st i).count 37
        · rw [if_pos (.inr (by simpa using hz))]
          exact (runs_percent L po f (i + 1) st (by omega) (by omega) (by omega) (by omega) (by rw [hpn]; exact hz)).symm
        · rw [if_neg (by simpa using hz), ← ih (i + 1) st (by omega) (by omega) (by omega) (by omega) (fun _ _ => by rw [hpn]; omega), b1, e58, e37]
      by_cases h93 : L[i] = 93
      · have n2 : (i : Int) = pc := (B.close_at i).1 (by rw [hg, h93])
        have ord := B.order
        have b1 : brAt po pc i = 1 := by unfold brAt; rw [if_neg (by omega), if_neg (by omega), if_pos (by omega)]
        have b2 : brAt po pc (i + 1) = 2 := by unfold brAt; rw [if_neg (by omega), if_neg (by omega), if_neg (by omega)]
        rw [runs_sep L po f i st hi (.inr h93) h8 hpct, scan, if_neg h58, if_neg h37, if_neg h91, if_pos h93, b1, if_neg (by omega),
          ← ih (i + 1) (i + 1) (by omega) (by omega) (by omega) (by rw [seg_self]; exact Nat.zero_le _) (fun a b => by omega), b2, seg_self]
        rfl
      by_cases h64 : L[i] = 64
      · have n1 : ¬ (i : Int) = po := fun e => by rw [← B.open_at, hg, h64] at e; cases e
        have n2 : ¬ (i : Int) = pc := fun e => by rw [← B.close_at, hg, h64] at e; cases e
        rw [runs_sep L po f i st hi (.inl h64) h8 hpct, scan, if_neg h58, if_neg h37, if_neg h91, if_neg h93, if_pos h64,
          ← ih (i + 1) (i + 1) (by omega) (by omega) (by omega) (by rw [seg_self]; exact Nat.zero_le _) (fun a b => by omega), brAt_same po pc i n1 n2, seg_self]
        rfl
      · have n1 : ¬ (i : Int) = po := fun e => by rw [← B.open_at, hg] at e; exact h91 (Option.some.inj e)
        have n2 : ¬ (i : Int) = pc := fun e => by rw [← B.close_at, hg] at e; exact h93 (Option.some.inj e)
        have e58 : (seg L st (i + 1)).count 58 = (seg L st i).count 58 := by rw [hsn, count_other _ _ _ h58]
        have e37 : (seg L st (i + 1)).count 37 = (seg L st i).count 37 := by rw [hsn, count_other _ _ _ h37]
        rw [runs_go L po f i st hi h64 h93, scan, if_neg h58, if_neg h37, if_neg h91, if_neg h93, if_neg h64,
          ← ih (i + 1) st (by omega) (by omega) (by omega) (by omega) (fun a b => hpct a (by omega)), brAt_same po pc i n1 n2, e58, e37]
    · have hn : i = L.length := by omega
      have hf0 : f = 0 := by omega
      subst hf0
      have hd : L.drop i = [] := List.drop_eq_nil_of_le (by omega)
      have ord := B.order
      have hb : brAt po pc i ≠ 1 := by
        unfold brAt
        by_cases a : po = -1
        · rw [if_pos a]; omega
        · rw [if_neg a, if_neg (by omega), if_neg (by omega)]; omega
      rw [hd, scan, runs, if_neg (by rintro ⟨h, _⟩; omega), if_neg (by omega), if_neg (by rintro ⟨a, b, c⟩; have := hpct a b; omega)]
      by_cases h1 : 1 < (seg L st i).count 58 ∨ 0 < (seg L st i).count 37
      · rw [if_pos ⟨hn, h1⟩]
        rcases h1 with h | h
        · simp [hb]; intro h'; omega
        · simp only [h]; simp
      · rw [if_neg (by rintro ⟨_, h⟩; exact h1 h)]
        have a1 : ¬ 1 < (seg L st i).count 58 := fun h => h1 (.inl h)
        have a2 : ¬ 0 < (seg L st i).count 37 := fun h => h1 (.inr h)
        simp [hb, a2, runs]; omega

theorem brackets_of (L : List UInt8) (h : brOk L = true) : ∃ pc, Brackets L (lastPos 91 L L.length) pc := by
  unfold brOk at h
  simp only [Bool.or_eq_true, decide_eq_true_eq] at h
  rcases h with ⟨h1, h3⟩ | ⟨h1, h3, hlt⟩
  · have e1 : lastPos 91 L L.length = -1 := by
      rcases lastPos_spec 91 L L.length (Nat.le_refl _) with ⟨e, _⟩ | ⟨p, _, _, hp⟩
      · exact e
      · exact absurd hp (count_zero_get 91 L h1 p)
    refine ⟨-1, ⟨fun i => ?_, fun i => ?_, .inl ⟨e1, rfl⟩⟩⟩
    · constructor
      · intro h; exact absurd h (count_zero_get 91 L h1 i)
      · intro h; omega
    · constructor
      · intro h; exact absurd h (count_zero_get 93 L h3 i)
      · intro h; omega
  · obtain ⟨p, e1, p1, g1, u1⟩ := count_one_pos 91 L h1
    obtain ⟨q, e3, q3, g3, u3⟩ := count_one_pos 93 L h3
    rw [e1, e3] at hlt
    rw [e1]
    refine ⟨(q : Int), ⟨fun i => ?_, fun i => ?_, .inr ⟨by omega, hlt, by omega⟩⟩⟩
    · constructor
      · intro h; have := u1 i h; omega
      · intro h; have : i = p := by omega
        rw [this]; exact g1
    · constructor
      · intro h; have := u3 i h; omega
      · intro h; have : i = q := by omega
        rw [this]; exact g3

theorem auth_agrees (L : List UInt8) : isAuth L = authModel L := by
  unfold isAuth authModel
  cases hB : brOk L
  · cases hs : scan L 0 0 false
    · simp
    · rw [scan_brOk L hs] at hB; cases hB
  · obtain ⟨pc, B⟩ := brackets_of L hB
    have h := scan_runs L _ pc B (L.length + 1) 0 0 (by omega) (by omega) (Nat.le_refl _) (by rw [seg_self]; exact Nat.zero_le _) (fun a b => by omega)
    rw [seg_self] at h
    have hb : brAt (lastPos 91 L L.length) pc 0 = 0 := by
      have ord := B.order
      unfold brAt
      by_cases a : lastPos 91 L L.length = -1
      · rw [if_pos a]
      · rw [if_neg a, if_pos (by omega)]
    rw [hb] at h
    have h' : scan L 0 0 false = runs L (lastPos 91 L L.length) (L.length + 1) 0 0 := h
    rw [h']
    simp

end Go.Proofs.Qxb6602896a.Url
