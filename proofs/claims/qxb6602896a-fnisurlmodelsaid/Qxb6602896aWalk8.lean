/-
  Seat b6602896a: the walks of strings.Cut at one byte, of isPathAndQuery, of zzPathAndQuery.
-/
import Derived.Test.Qxb6602896aWalk7
namespace Go.Proofs.Qxb6602896a.Url
open Go.RowKit

/-! ### internal/stringslite.Index at one byte -/

theorem index_self (s : ByteArray) (c : UInt8) (h : ([c] == s.toList) = true) : Lib.indexByte s.data.toList c = 0 := by
  rw [Lib.toList_data] at h
  have h' : [c] = s.data.toList := by simpa using h
  rw [← h', Lib.indexByte]
  simp

set_option maxHeartbeats 400000 in
theorem index50_any (s : ByteArray) (c : UInt8) (w : World) :
    Calls Try.prog 50 #[.string s, .int .u8 (c.toNat : Int)] w fun e w' => e = .returned (.int .i64 (Lib.indexByte s.data.toList c)) ∧ w' = w := by
  go_enter Try.func50, Try.ntmps50
  go_wp2
  rw [run_callFunc_extern Try.func56 (by kernel_rfl) (by kernel_rfl) (by kernel_rfl) (e := Extern.BytealgIndexByte.indexByte) (by kernel_rfl), Lib.run_indexByteString]
  simp only [Result.andThen]
  rw [Oper.upon_value]
  go_wp2
  go_ret
  exact ⟨rfl, rfl⟩

set_option maxHeartbeats 400000 in
theorem index_35 (s : ByteArray) (w : World) :
    Calls Try.prog 57 #[.string s, .string { data := #[35] }] w fun e w' => e = .returned (.int .i64 (Lib.indexByte s.data.toList 35)) ∧ w' = w := by
  by_cases h : ([35] == s.toList) = true
  · have hz : Hid (Lib.indexByte s.data.toList 35 = 0) := index_self s 35 h
    go_enter Try.func57, Try.ntmps57
    go_wp2
    go_ret
    rw [hz.out]
    exact ⟨rfl, rfl⟩
  · have h' : ([35] == s.toList) = false := by simpa using h
    go_enter Try.func57, Try.ntmps57
    go_wp2_with fail
    refine (index50_any s 35 _).mono ?_
    rintro e w' ⟨rfl, rfl⟩
    go_wp2
    go_ret
    exact ⟨rfl, rfl⟩

set_option maxHeartbeats 400000 in
theorem index_63 (s : ByteArray) (w : World) :
    Calls Try.prog 57 #[.string s, .string { data := #[63] }] w fun e w' => e = .returned (.int .i64 (Lib.indexByte s.data.toList 63)) ∧ w' = w := by
  by_cases h : ([63] == s.toList) = true
  · have hz : Hid (Lib.indexByte s.data.toList 63 = 0) := index_self s 63 h
    go_enter Try.func57, Try.ntmps57
    go_wp2
    go_ret
    rw [hz.out]
    exact ⟨rfl, rfl⟩
  · have h' : ([63] == s.toList) = false := by simpa using h
    go_enter Try.func57, Try.ntmps57
    go_wp2_with fail
    refine (index50_any s 63 _).mono ?_
    rintro e w' ⟨rfl, rfl⟩
    go_wp2
    go_ret
    exact ⟨rfl, rfl⟩

/-! ### strings.Cut -/

theorem before_idx (c : UInt8) : ∀ l : List UInt8, (Lib.indexByte l c = -1 → before c l = l ∧ after c l = []) ∧ (∀ n : Nat, Lib.indexByte l c = (n : Int) → before c l = l.take n ∧ after c l = l.drop (n + 1) ∧ n < l.length)
  | [] => ⟨fun _ => ⟨rfl, rfl⟩, fun n h => by simp [Lib.indexByte] at h⟩
  | d :: l => by
    have ih := before_idx c l
    have hge := Lib.indexByte_ge l c
    rw [Lib.indexByte, before, after]
    by_cases h : d = c
    · subst h
      simp
      intro n hn
      have : n = 0 := by omega
      subst this
      simp
    · have hb : (d == c) = false := by simpa using h
      rw [hb]
      simp only [h, if_false, Bool.false_eq_true]
      by_cases hm : Lib.indexByte l c = -1
      · have hm' : (Lib.indexByte l c == -1) = true := by simpa using hm
        rw [hm']
        simp only [if_true]
        refine ⟨fun _ => ?_, fun n hn => by omega⟩
        have := ih.1 hm
        rw [this.1, this.2]; exact ⟨rfl, rfl⟩
      · have hm' : (Lib.indexByte l c == -1) = false := by simpa using hm
        rw [hm']
        simp only [Bool.false_eq_true, if_false]
        refine ⟨fun h => by omega, fun n hn => ?_⟩
        obtain ⟨m, hm2⟩ : ∃ m : Nat, Lib.indexByte l c = (m : Int) := ⟨(Lib.indexByte l c).toNat, by omega⟩
        have hnm : n = m + 1 := by omega
        subst hnm
        have := ih.2 m hm2
        rw [this.1, this.2.1]
        simp; exact this.2.2

/-- What strings.Cut hands back: the two pieces and whether the byte was found. -/
structure Cutting (s : ByteArray) (c : UInt8) (b a : ByteArray) : Prop where
  hb : b.data.toList = before c s.data.toList
  ha : a.data.toList = after c s.data.toList
  sb : b.size ≤ s.size
  sa : a.size ≤ s.size

set_option maxHeartbeats 1000000 in
theorem cut51 (sep : ByteArray) (hsep : sep.size = 1) (c : UInt8) (h57 : ∀ (s : ByteArray) (w : World), Calls Try.prog 57 #[.string s, .string sep] w fun e w' => e = .returned (.int .i64 (Lib.indexByte s.data.toList c)) ∧ w' = w)
    (s : ByteArray) (w : World) (hs : s.size ≤ 1048576) :
    Calls Try.prog 51 #[.string s, .string sep] w fun e w' => (∃ b a f, e = .returned (.tuple #[.string b, .string a, .bool f]) ∧ Cutting s c b a) ∧ Below w.heap.size w w' := by
  have hB := before_idx c s.data.toList
  have hge := Lib.indexByte_ge s.data.toList c
  have hl := len_list s
  have H57 : Hid (∀ (s : ByteArray) (w : World), Calls Try.prog 57 #[.string s, .string sep] w fun e w' => e = .returned (.int .i64 (Lib.indexByte s.data.toList c)) ∧ w' = w) := h57
  clear h57
  by_cases hm : Lib.indexByte s.data.toList c = -1
  · have HC : Hid (Cutting s c s ByteArray.empty) := by
      have := hB.1 hm
      exact ⟨this.1.symm, this.2.symm, Nat.le_refl _, Nat.zero_le _⟩
    have HM : Hid (Lib.indexByte s.data.toList c = -1) := hm
    clear hB hge hl hm
    go_enter Try.func51, Try.ntmps51
    go_wp2_with fail
    refine (H57.out s _).mono ?_
    rintro e w ⟨rfl, rfl⟩
    rw [HM.out]
    go_wp2
    go_ret3
    exact ⟨⟨_, _, _, rfl, HC.out⟩, Below.refl _ _⟩
  · obtain ⟨n, hn⟩ : ∃ n : Nat, Lib.indexByte s.data.toList c = (n : Int) := ⟨(Lib.indexByte s.data.toList c).toNat, by omega⟩
    have h2 := hB.2 n hn
    have hns : n < s.size := by rw [← hl]; exact h2.2.2
    have HC : Hid (Cutting s c (s.extract 0 n) (s.extract (n + 1) s.size)) := by
      refine ⟨?_, ?_, ?_, ?_⟩
      · rw [h2.1, ByteArray.data_extract, Array.toList_extract]; simp [List.extract]
      · rw [h2.2.1, drop_extract]
      · rw [ByteArray.size_extract]; omega
      · rw [ByteArray.size_extract]; omega
    have HM : Hid (Lib.indexByte s.data.toList c = (n : Int)) := hn
    clear hB hge hl hm hn h2
    go_enter Try.func51, Try.ntmps51
    go_wp2_with fail
    refine (H57.out s _).mono ?_
    rintro e w ⟨rfl, rfl⟩
    rw [HM.out]
    go_wp2
    have hn1 : (n : Int) + 1 ≤ (s.size : Int) := by omega
    have hn2 : (n : Int) ≤ (s.size : Int) := by omega
    go_quiet (fail)
    go_wp2
    go_ret3
    exact ⟨⟨_, _, _, rfl, HC.out⟩, below_drewN (Below.refl _ _) nq⟩

set_option maxHeartbeats 400000 in
theorem cut44 (sep : ByteArray) (hsep : sep.size = 1) (c : UInt8) (h57 : ∀ (s : ByteArray) (w : World), Calls Try.prog 57 #[.string s, .string sep] w fun e w' => e = .returned (.int .i64 (Lib.indexByte s.data.toList c)) ∧ w' = w)
    (s : ByteArray) (w : World) (hs : s.size ≤ 1048576) :
    Calls Try.prog 44 #[.string s, .string sep] w fun e w' => (∃ b a f, e = .returned (.tuple #[.string b, .string a, .bool f]) ∧ Cutting s c b a) ∧ Below w.heap.size w w' := by
  have H := cut51 sep hsep c h57 s w hs
  have HH : Hid (Calls Try.prog 51 #[.string s, .string sep] w fun e w' => (∃ b a f, e = .returned (.tuple #[.string b, .string a, .bool f]) ∧ Cutting s c b a) ∧ Below w.heap.size w w') := H
  clear H h57 hsep
  go_enter Try.func44, Try.ntmps44
  go_wp2_with fail
  refine HH.out.mono ?_
  rintro e w1 ⟨⟨b, a, f, rfl, hC⟩, hB⟩
  go_wp2
  go_ret3
  exact ⟨⟨b, a, f, rfl, hC⟩, hB⟩

/-! ### isPathAndQuery -/

set_option maxHeartbeats 1000000 in
theorem isPathAndQuery_any (s : ByteArray) (w : World) (hs : s.size ≤ 1048576) :
    Calls Try.prog 37 #[.string s] w fun e w' => e = .returned (.bool (pathQ s.data.toList)) ∧ Below w.heap.size w w' := by
  go_enter Try.func37, Try.ntmps37
  go_wp2_with fail
  refine (cut44 { data := #[35] } rfl 35 index_35 s _ hs).mono ?_
  rintro e w1 ⟨⟨t, t2, f, rfl, hC1⟩, hB1⟩
  have ht := hC1.sb
  have ht' : t.size ≤ 1048576 := by omega
  go_wp2_with fail
  refine (cut44 { data := #[63] } rfl 63 index_63 t _ ht').mono ?_
  rintro e w2 ⟨⟨p, q, f2, rfl, hC2⟩, hB2⟩
  have hp : p.size ≤ 1048576 := by have := hC2.sb; omega
  have hq : q.size ≤ 1048576 := by have := hC2.sa; omega
  have HQ : Hid (pathQ s.data.toList = (holds refusedP p.data.toList && holds refusedQ q.data.toList)) := by
    show _ = _
    unfold pathQ
    rw [hC2.hb, hC2.ha, hC1.hb]
  clear hC1 hC2 ht
  have hB : Below w.heap.size w w2 := hB1.trans (hB2.mono hB1.size)
  clear hB1 hB2
  go_wp2_with fail
  refine (holdsOnly_any p { data := #[60, 62, 96] } _ hp).mono ?_
  rintro e w3 ⟨rfl, hw3⟩
  subst hw3
  have e1 : holds ({ data := #[60, 62, 96] } : ByteArray).data.toList p.data.toList = holds refusedP p.data.toList := rfl
  rw [e1]
  cases h1 : holds refusedP p.data.toList
  · go_wp2
    go_ret
    exact ⟨ret_bool (by rw [HQ.out, h1]; rfl), hB⟩
  · go_wp2_with fail
    refine (holdsOnly_any q { data := #[34, 60, 62] } _ hq).mono ?_
    rintro e w4 ⟨rfl, hw4⟩
    subst hw4
    have e2 : holds ({ data := #[34, 60, 62] } : ByteArray).data.toList q.data.toList = holds refusedQ q.data.toList := rfl
    rw [e2]
    go_wp2
    go_ret
    exact ⟨ret_bool (by rw [HQ.out, h1]; rfl), hB⟩

/-! ### zzPathAndQuery -/

theorem pq_at (s : ByteArray) (k : Nat) (h : k < s.size) (q : Bool) : pq q (s.data.toList.drop k) = if s[k] = 35 then true else if q = false ∧ s[k] = 63 then pq true (s.data.toList.drop (k + 1)) else if okByte (if q then refusedQ else refusedP) s[k] then pq q (s.data.toList.drop (k + 1)) else false := by
  rw [drop_cons s k h, pq]

theorem pq_hash (s : ByteArray) (k : Nat) (h : k < s.size) (q : Bool) (h35 : ((s[k].toNat : Int) == 35) = true) : pq q (s.data.toList.drop k) = true := by
  rw [pq_at s k h, if_pos (show s[k] = 35 from byte_eq s[k] 35 (by decide) h35)]
theorem pq_mark (s : ByteArray) (k : Nat) (h : k < s.size) (h35 : ((s[k].toNat : Int) == 35) = false) (h63 : ((s[k].toNat : Int) == 63) = true) : pq false (s.data.toList.drop k) = pq true (s.data.toList.drop (k + 1)) := by
  rw [pq_at s k h, if_neg (show ¬ s[k] = 35 from byte_ne s[k] 35 (by decide) h35), if_pos ⟨rfl, show s[k] = 63 from byte_eq s[k] 63 (by decide) h63⟩]
theorem pq_step (s : ByteArray) (k : Nat) (h : k < s.size) (q : Bool) (h35 : ((s[k].toNat : Int) == 35) = false) (h63 : q = false → ((s[k].toNat : Int) == 63) = false) (b : Bool) (hb : okByte (if q then refusedQ else refusedP) s[k] = b) :
    pq q (s.data.toList.drop k) = if b then pq q (s.data.toList.drop (k + 1)) else false := by
  rw [pq_at s k h, if_neg (show ¬ s[k] = 35 from byte_ne s[k] 35 (by decide) h35), if_neg, hb]
  rintro ⟨e, e2⟩
  exact byte_ne s[k] 63 (by decide) (h63 e) e2

end Go.Proofs.Qxb6602896a.Url
