/-
  Seat b6602896a: the plain functions of isURL and of the law's own model, and that the two agree. No Go in sight.
-/
import Derived.Test.Qxb6602896aPlain2
namespace Go.Proofs.Qxb6602896a.Url

def refusedP : List UInt8 := [60, 62, 96]
def refusedQ : List UInt8 := [34, 60, 62]

/-- What lies before the first c; what lies behind it. -/
def before (c : UInt8) : List UInt8 → List UInt8
  | [] => []
  | d :: l => if d = c then [] else d :: before c l
def after (c : UInt8) : List UInt8 → List UInt8
  | [] => []
  | d :: l => if d = c then l else after c l

/-- isPathAndQuery. -/
def pathQ (l : List UInt8) : Bool := holds refusedP (before 63 (before 35 l)) && holds refusedQ (after 63 (before 35 l))

/-- The law's own scan of a path and a query; the flag: in the query. -/
def pq : Bool → List UInt8 → Bool
  | _, [] => true
  | q, c :: l =>
    if c = 35 then true
    else if q = false ∧ c = 63 then pq true l
    else if okByte (if q then refusedQ else refusedP) c then pq q l else false

theorem pq_query : ∀ l : List UInt8, pq true l = holds refusedQ (before 35 l)
  | [] => rfl
  | c :: l => by
    rw [pq, before]
    by_cases h : c = 35
    · rw [if_pos h, if_pos h]; rfl
    · rw [if_neg h, if_neg h, if_neg (by simp), pq_query l]
      cases hk : okByte refusedQ c <;> simp [holds, hk]

theorem pq_path : ∀ l : List UInt8, pq false l = pathQ l
  | [] => rfl
  | c :: l => by
    have ih := pq_path l
    unfold pathQ at ih ⊢
    rw [pq, before]
    by_cases h : c = 35
    · rw [if_pos h, if_pos h]; rfl
    · rw [if_neg h, if_neg h]
      by_cases h63 : c = 63
      · rw [if_pos ⟨rfl, h63⟩, pq_query, before, if_pos h63, after, if_pos h63]; simp [holds]
      · rw [if_neg (by simp [h63]), before, if_neg h63, after, if_neg h63, ih]
        cases hk : okByte refusedP c <;> simp [holds, hk]

/-! ### The end of the authority -/

def isEnd (c : UInt8) : Bool := c == 47 || c == 63 || c == 35

def authEnd : List UInt8 → Nat
  | [] => 0
  | c :: l => if isEnd c then 0 else authEnd l + 1

theorem authEnd_le : ∀ l : List UInt8, authEnd l ≤ l.length
  | [] => Nat.le_refl _
  | c :: l => by
    have := authEnd_le l
    rw [authEnd]
    split <;> simp <;> omega

theorem authEnd_mem : ∀ (l : List UInt8), authEnd l = l.length → ∀ c ∈ l, isEnd c = false
  | [], _, c, hc => by cases hc
  | d :: l, h, c, hc => by
    rw [authEnd] at h
    by_cases hd : isEnd d = true
    · rw [if_pos hd] at h; simp at h
    · rw [if_neg hd] at h
      simp only [List.length_cons] at h
      rcases List.mem_cons.1 hc with e | e
      · rw [e]; simpa using hd
      · exact authEnd_mem l (by omega) c e

/-! ### The scheme -/

def schemeB (c : UInt8) : Bool :=
  (decide (97 ≤ c.toNat) && decide (c.toNat ≤ 122)) || (decide (65 ≤ c.toNat) && decide (c.toNat ≤ 90)) || (decide (48 ≤ c.toNat) && decide (c.toNat ≤ 57)) || c == 43 || c == 45 || c == 46

/-- Where the colon of a scheme stands, if there is one. -/
def schemeAt : List UInt8 → Option Nat
  | [] => none
  | c :: l => if c = 58 then (if l.take 2 = [47, 47] then some 0 else none) else if schemeB c then (schemeAt l).map (· + 1) else none

/-- The first place of c, by the law's own scan. -/
def firstAt (c : UInt8) : List UInt8 → Option Nat
  | [] => none
  | d :: l => if d = c then some 0 else (firstAt c l).map (· + 1)

theorem firstAt_spec (c : UInt8) : ∀ (l : List UInt8) (k : Nat), firstAt c l = some k → l[k]? = some c ∧ ∀ j, j < k → l[j]? ≠ some c
  | [], k, h => by cases h
  | d :: l, k, h => by
    rw [firstAt] at h
    by_cases e : d = c
    · rw [if_pos e] at h
      obtain rfl := Option.some.inj h
      exact ⟨by simp [e], fun j hj => by omega⟩
    · rw [if_neg e] at h
      cases hf : firstAt c l with
      | none => rw [hf] at h; cases h
      | some m =>
        rw [hf] at h
        have hk : m + 1 = k := Option.some.inj h
        subst hk
        have ih := firstAt_spec c l m hf
        refine ⟨by simpa using ih.1, fun j hj => ?_⟩
        cases j with
        | zero => simpa using e
        | succ j => simpa using ih.2 j (by omega)

/-- The law's test for a scheme: the first colon, the two slashes, the bytes ahead of it. -/
def schemeOk (l : List UInt8) (k : Nat) : Bool := decide ((l.drop (k + 1)).take 2 = [47, 47]) && (l.take k).all schemeB

theorem schemeAt_eq : ∀ l : List UInt8, schemeAt l = match firstAt 58 l with | some k => (if schemeOk l k then some k else none) | none => none
  | [] => rfl
  | c :: l => by
    have ih := schemeAt_eq l
    rw [schemeAt, firstAt]
    by_cases h : c = 58
    · rw [if_pos h, if_pos h]
      by_cases h2 : l.take 2 = [47, 47] <;> simp [schemeOk, h2]
    · rw [if_neg h, if_neg h, ih]
      cases hf : firstAt 58 l with
      | none => simp
      | some k =>
        simp only [Option.map_some]
        cases hs : schemeB c <;> cases hk : schemeOk l k
        · simp [schemeOk, hs]
        · simp [schemeOk, hs]
        · simp [schemeOk, hs] at hk ⊢
          exact hk
        · simp [schemeOk, hs] at hk ⊢
          exact hk

/-! ### The two readings of a url -/

def isUrl (l : List UInt8) : Bool :=
  if l = [] then false
  else if l.headD 0 = 47 then pathQ l
  else match schemeAt l with
    | some k => isAuth ((l.drop (k + 3)).take (authEnd (l.drop (k + 3)))) && decide (0 < authEnd (l.drop (k + 3))) && pathQ ((l.drop (k + 3)).drop (authEnd (l.drop (k + 3))))
    | none => isAuth (l.take (authEnd l)) && decide (authEnd l = l.length)

def pathForm (l : List UInt8) : Bool := decide (l ≠ []) && decide (l.headD 0 = 47) && pq false l
def schemeForm (l : List UInt8) : Bool := match firstAt 58 l with
  | some k => schemeOk l k && decide (0 < authEnd (l.drop (k + 3))) && authModel ((l.drop (k + 3)).take (authEnd (l.drop (k + 3)))) && pq false ((l.drop (k + 3)).drop (authEnd (l.drop (k + 3))))
  | none => false
def bareForm (l : List UInt8) : Bool := decide (l ≠ []) && decide (authEnd l = l.length) && authModel l
def urlModel (l : List UInt8) : Bool := pathForm l || schemeForm l || bareForm l

theorem scheme_not_bare (l : List UInt8) (k : Nat) (h : schemeOk l k = true) : authEnd l ≠ l.length := by
  intro e
  unfold schemeOk at h
  simp only [Bool.and_eq_true, decide_eq_true_eq] at h
  have hm : (47 : UInt8) ∈ (l.drop (k + 1)).take 2 := by rw [h.1]; simp
  have hm2 : (47 : UInt8) ∈ l := List.mem_of_mem_drop (List.mem_of_mem_take hm)
  have := authEnd_mem l e 47 hm2
  cases this

theorem slash_not_scheme (l : List UInt8) (hne : l ≠ []) (h : l.headD 0 = 47) : schemeForm l = false := by
  unfold schemeForm
  cases l with
  | nil => exact absurd rfl hne
  | cons c l =>
    have hc : c = 47 := h
    subst hc
    rw [firstAt, if_neg (by decide)]
    cases firstAt 58 l with
    | none => rfl
    | some k =>
      have : schemeOk (47 :: l) (k + 1) = false := by
        unfold schemeOk
        have hs : schemeB 47 = false := by decide
        simp [hs]
      simp [this]

theorem slash_not_bare (l : List UInt8) (hne : l ≠ []) (h : l.headD 0 = 47) : bareForm l = false := by
  unfold bareForm
  cases l with
  | nil => exact absurd rfl hne
  | cons c l =>
    have hc : c = 47 := h
    subst hc
    have : authEnd (47 :: l) = 0 := rfl
    simp [this]

theorem url_agrees (l : List UInt8) : isUrl l = urlModel l := by
  unfold isUrl urlModel
  by_cases hne : l = []
  · subst hne; rfl
  · rw [if_neg hne]
    by_cases h47 : l.headD 0 = 47
    · rw [if_pos h47, slash_not_scheme l hne h47, slash_not_bare l hne h47, ← pq_path]
      unfold pathForm
      rw [h47]
      simp [hne]
    · rw [if_neg h47]
      have hp : pathForm l = false := by unfold pathForm; simp only [h47, decide_false, Bool.and_false, Bool.false_and]
      rw [hp, schemeAt_eq]
      unfold schemeForm bareForm
      cases hf : firstAt 58 l with
      | none =>
        by_cases he : authEnd l = l.length
        · simp [hne, he, auth_agrees]
        · simp [he]
      | some k =>
        cases hk : schemeOk l k
        · by_cases he : authEnd l = l.length
          · simp [hk, hne, he, auth_agrees]
          · simp [hk, he]
        · have he := scheme_not_bare l k hk
          simp only [hk, if_true, Bool.true_and, auth_agrees, ← pq_path, he, decide_false, Bool.and_false, Bool.false_and, Bool.or_false, Bool.false_or]
          rw [Bool.and_comm (authModel _)]

end Go.Proofs.Qxb6602896a.Url
