/-
  Seat b6602896a: the walk of the law's own model of an authority.
-/
import Derived.Test.Qxb6602896aWalk2
namespace Go.Proofs.Qxb6602896a.Url
open Go.RowKit

theorem count_58 (s : ByteArray) (w : World) (hs : s.size ≤ 1048576) :
    Calls Try.prog 19 #[.string s, .int .u8 58] w fun e w' => e = .returned (.int .i64 (cntB s.data.toList 58 : Int)) ∧ w' = w := count_any s 58 w hs
theorem count_37 (s : ByteArray) (w : World) (hs : s.size ≤ 1048576) :
    Calls Try.prog 19 #[.string s, .int .u8 37] w fun e w' => e = .returned (.int .i64 (cntB s.data.toList 37 : Int)) ∧ w' = w := count_any s 37 w hs

/-! ### What the second loop gathers -/

structure Gath (L : List UInt8) (k o c : Nat) (po pc : Int) : Prop where
  ho : o = (L.take k).count 91
  hc : c = (L.take k).count 93
  hpo : po = lastPos 91 L k
  hpc : pc = lastPos 93 L k

theorem lastPos_hit (s : ByteArray) (k : Nat) (h : k < s.size) (c : UInt8) (e : s[k] = c) : lastPos c s.data.toList (k + 1) = (k : Int) := by
  rw [lastPos, if_pos]
  rw [get_some _ k (by simpa using h), ← get_list s k h, e]

theorem lastPos_miss (s : ByteArray) (k : Nat) (h : k < s.size) (c : UInt8) (e : s[k] ≠ c) : lastPos c s.data.toList (k + 1) = lastPos c s.data.toList k := by
  rw [lastPos, if_neg]
  rw [get_some _ k (by simpa using h), ← get_list s k h]
  intro h'
  exact e (Option.some.inj h')

theorem gath_step (s : ByteArray) (k o c : Nat) (po pc : Int) (h : k < s.size) (g : Gath s.data.toList k o c po pc) (b91 b93 : Bool) (h91 : ((s[k].toNat : Int) == 91) = b91) (h93 : ((s[k].toNat : Int) == 93) = b93) :
    Gath s.data.toList (k + 1) (if b91 then o + 1 else o) (if b93 then c + 1 else c) (if b91 then (k : Int) else po) (if b93 then (k : Int) else pc) := by
  refine ⟨?_, ?_, ?_, ?_⟩
  · rw [count_snoc s k 91 h, ← g.ho]
    cases b91
    · rw [if_neg (show ¬ s[k] = 91 from byte_ne s[k] 91 (by decide) h91)]; rfl
    · rw [if_pos (show s[k] = 91 from byte_eq s[k] 91 (by decide) h91)]; rfl
  · rw [count_snoc s k 93 h, ← g.hc]
    cases b93
    · rw [if_neg (show ¬ s[k] = 93 from byte_ne s[k] 93 (by decide) h93)]; rfl
    · rw [if_pos (show s[k] = 93 from byte_eq s[k] 93 (by decide) h93)]; rfl
  · cases b91
    · rw [lastPos_miss s k h 91 (byte_ne s[k] 91 (by decide) h91), g.hpo]; rfl
    · rw [lastPos_hit s k h 91 (byte_eq s[k] 91 (by decide) h91)]; rfl
  · cases b93
    · rw [lastPos_miss s k h 93 (byte_ne s[k] 93 (by decide) h93), g.hpc]; rfl
    · rw [lastPos_hit s k h 93 (byte_eq s[k] 93 (by decide) h93)]; rfl

theorem gath_end (s : ByteArray) (o c : Nat) (po pc : Int) (k : Nat) (hk : k = s.size) (g : Gath s.data.toList k o c po pc) :
    brOk s.data.toList = (decide (o = 0 ∧ c = 0) || decide (o = 1 ∧ c = 1 ∧ po < pc)) ∧ po = lastPos 91 s.data.toList s.data.toList.length := by
  subst hk
  obtain ⟨ho, hc, hpo, hpc⟩ := g
  rw [List.take_of_length_le (by simp)] at ho hc
  unfold brOk
  rw [ho, hc, hpo, hpc, len_list]
  exact ⟨rfl, rfl⟩

/-! ### The third loop -/

def Sep (s : ByteArray) (i : Nat) : Prop := ¬ (i < s.data.toList.length ∧ s.data.toList[i]? ≠ some 64 ∧ s.data.toList[i]? ≠ some 93)

theorem sep_end (s : ByteArray) (i : Nat) (h : ¬ i < s.size) : Sep s i := by
  rintro ⟨a, _⟩
  rw [len_list] at a
  exact h a
theorem sep_64 (s : ByteArray) (i : Nat) (h : i < s.size) (e : ((s[i].toNat : Int) != 64) = false) : Sep s i := by
  rintro ⟨_, a, _⟩
  apply a
  rw [get_some _ i (by simpa using h), ← get_list s i h]
  have : s[i] = 64 := by apply UInt8.toNat_inj.1; simp at e; simp; omega
  rw [this]
theorem sep_93 (s : ByteArray) (i : Nat) (h : i < s.size) (e : ((s[i].toNat : Int) != 93) = false) : Sep s i := by
  rintro ⟨_, _, a⟩
  apply a
  rw [get_some _ i (by simpa using h), ← get_list s i h]
  have : s[i] = 93 := by apply UInt8.toNat_inj.1; simp at e; simp; omega
  rw [this]

theorem runs_on (s : ByteArray) (po : Int) (f i st : Nat) (h : i < s.size) (e1 : ((s[i].toNat : Int) != 64) = true) (e2 : ((s[i].toNat : Int) != 93) = true) :
    runs s.data.toList po (f + 1) i st = runs s.data.toList po f (i + 1) st := by
  apply runs_go _ _ _ _ _ (by simpa using h)
  · rw [← get_list s i h]; intro e; rw [e] at e1; simp at e1
  · rw [← get_list s i h]; intro e; rw [e] at e2; simp at e2

theorem runs_bad1 (s : ByteArray) (po : Int) (f i st c : Nat) (hs : Sep s i) (hc : c = (seg s.data.toList st i).count 58) (h : 8 < c) : runs s.data.toList po (f + 1) i st = false := by
  rw [runs, if_neg hs, if_pos (by rw [← hc]; exact h)]
theorem runs_bad2 (s : ByteArray) (po : Int) (f i st p : Nat) (hs : Sep s i) (h1 : (st : Int) ≤ po) (h2 : po < (i : Int)) (hc : p = (seg s.data.toList st po.toNat).count 37) (h : 0 < p) : runs s.data.toList po (f + 1) i st = false := by
  rw [runs, if_neg hs]
  by_cases h8 : 8 < (seg s.data.toList st i).count 58
  · rw [if_pos h8]
  · rw [if_neg h8, if_pos ⟨h1, h2, by rw [← hc]; exact h⟩]
theorem runs_bad3 (s : ByteArray) (po : Int) (f i st : Nat) (hs : Sep s i) (hi : i = s.size) (h : 1 < (seg s.data.toList st i).count 58 ∨ 0 < (seg s.data.toList st i).count 37) : runs s.data.toList po (f + 1) i st = false := by
  rw [runs, if_neg hs]
  by_cases h8 : 8 < (seg s.data.toList st i).count 58
  · rw [if_pos h8]
  · rw [if_neg h8]
    by_cases h2 : (st : Int) ≤ po ∧ po < (i : Int) ∧ 0 < (seg s.data.toList st po.toNat).count 37
    · rw [if_pos h2]
    · rw [if_neg h2, if_pos ⟨by rw [len_list]; exact hi, h⟩]
theorem runs_next (s : ByteArray) (po : Int) (f i st : Nat) (hs : Sep s i) (h8 : ¬ 8 < (seg s.data.toList st i).count 58)
    (h2 : ¬ ((st : Int) ≤ po ∧ po < (i : Int) ∧ 0 < (seg s.data.toList st po.toNat).count 37))
    (h3 : ¬ (i = s.size ∧ (1 < (seg s.data.toList st i).count 58 ∨ 0 < (seg s.data.toList st i).count 37))) :
    runs s.data.toList po (f + 1) i st = runs s.data.toList po f (i + 1) (i + 1) := by
  rw [runs, if_neg hs, if_neg h8, if_neg h2, if_neg (by rw [len_list]; exact h3)]

theorem seg_extract (s : ByteArray) (a b : Nat) (c : UInt8) : cntB (s.extract a b).data.toList c = (seg s.data.toList a b).count c := by
  unfold cntB seg
  rw [ByteArray.data_extract, Array.toList_extract]

theorem extract_le (s : ByteArray) (a b : Nat) (h : s.size ≤ 1048576) : (s.extract a b).size ≤ 1048576 := by
  rw [ByteArray.size_extract]; omega

end Go.Proofs.Qxb6602896a.Url
