/-
  Seat b6602896a: the walks of the small functions.
-/
import Derived.Test.Qxb6602896aRows
import Derived.Test.Qxb6602896aPlain2
import Derived.WalkKit
import Derived.WalkSpells
import Derived.WalkLawsBesides
import Derived.Lib.Bytealg
import Derived.Lib.IndexAny
namespace Go.Proofs.Qxb6602896a.Url
open Go.RowKit

theorem ret_bool {a b : Bool} (h : a = b) : Ending.returned (.bool a) = .returned (.bool b) := by rw [h]
theorem ret_int {k : IntKind} {a b : Int} (h : a = b) : Ending.returned (.int k a) = .returned (.int k b) := by rw [h]
theorem ret_string {a b : ByteArray} (h : a = b) : Ending.returned (.string a) = .returned (.string b) := by rw [h]

theorem get_list (s : ByteArray) (k : Nat) (h : k < s.size) : s[k] = s.data.toList[k]'(by simpa using h) := rfl
theorem len_list (s : ByteArray) : s.data.toList.length = s.size := by simp

theorem take_snoc (s : ByteArray) (k : Nat) (h : k < s.size) : s.data.toList.take (k + 1) = s.data.toList.take k ++ [s[k]] := by
  rw [List.take_succ_eq_append_getElem (by simpa using h)]; rfl

theorem drop_cons (t : ByteArray) (k : Nat) (h : k < t.size) : t.data.toList.drop k = t[k] :: t.data.toList.drop (k + 1) := by
  rw [List.drop_eq_getElem_cons (by simpa using h)]; rfl

theorem byte_eq (c : UInt8) (n : Nat) (hn : n < 256) (h : ((c.toNat : Int) == (n : Int)) = true) : c = n.toUInt8 := by
  apply UInt8.toNat_inj.1
  simp at h
  simp
  omega

theorem byte_ne (c : UInt8) (n : Nat) (hn : n < 256) (h : ((c.toNat : Int) == (n : Int)) = false) : c ≠ n.toUInt8 := by
  intro e
  rw [e] at h
  simp at h
  omega

set_option maxHeartbeats 400000 in
theorem indexByte_any (s : ByteArray) (c : UInt8) (w : World) :
    Calls Try.prog 42 #[.string s, .int .u8 (c.toNat : Int)] w fun e w' => e = .returned (.int .i64 (Lib.indexByte s.data.toList c)) ∧ w' = w := by
  have h50 : ∀ w : World, Calls Try.prog 50 #[.string s, .int .u8 (c.toNat : Int)] w fun e w' => e = .returned (.int .i64 (Lib.indexByte s.data.toList c)) ∧ w' = w := by
    intro w
    go_enter Try.func50, Try.ntmps50
    go_wp2
    rw [run_callFunc_extern Try.func56 (by kernel_rfl) (by kernel_rfl) (by kernel_rfl) (e := Extern.BytealgIndexByte.indexByte) (by kernel_rfl), Lib.run_indexByteString]
    simp only [Result.andThen]
    rw [Oper.upon_value]
    go_wp2
    go_ret
    exact ⟨rfl, rfl⟩
  have H : Hid (∀ w : World, Calls Try.prog 50 #[.string s, .int .u8 (c.toNat : Int)] w fun e w' => e = .returned (.int .i64 (Lib.indexByte s.data.toList c)) ∧ w' = w) := h50
  clear h50
  go_enter Try.func42, Try.ntmps42
  go_wp2_with (go_at_call 50; refine (H.out _).mono ?_; rintro e w' ⟨rfl, rfl⟩)
  go_ret
  exact ⟨rfl, rfl⟩

theorem holds_snoc (ref : List UInt8) (l : List UInt8) (c : UInt8) : holds ref (l ++ [c]) = (holds ref l && okByte ref c) := by
  simp [holds]

theorem holds_bad (ref : List UInt8) (s : ByteArray) (k : Nat) (h : k < s.size) (hb : okByte ref s[k] = false) : holds ref s.data.toList = false := by
  have e : s.data.toList = s.data.toList.take k ++ s[k] :: s.data.toList.drop (k + 1) := by
    rw [← drop_cons s k h, List.take_append_drop]
  rw [e]
  simp [holds, hb]

theorem ok_low (ref : List UInt8) (c : UInt8) (h : (c.toNat : Int) ≤ 32) : okByte ref c = false := by
  unfold okByte
  have : ¬ 32 < c.toNat := by omega
  simp [this]

theorem ok_high (ref : List UInt8) (c : UInt8) (h : 126 < (c.toNat : Int)) : okByte ref c = false := by
  unfold okByte
  have : ¬ c.toNat ≤ 126 := by omega
  simp [this]

theorem ok_in (ref : List UInt8) (c : UInt8) (h : 0 ≤ Lib.indexByte ref c) : okByte ref c = false := by
  unfold okByte
  rw [Lib.contains_iff_indexByte]
  simp [h]

theorem ok_yes (ref : List UInt8) (c : UInt8) (h1 : 32 < (c.toNat : Int)) (h2 : (c.toNat : Int) ≤ 126) (h : Lib.indexByte ref c < 0) : okByte ref c = true := by
  unfold okByte
  have a : 32 < c.toNat := by omega
  have b : c.toNat ≤ 126 := by omega
  have d : ¬ 0 ≤ Lib.indexByte ref c := by omega
  rw [Lib.contains_iff_indexByte]
  simp [a, b, d]

set_option maxHeartbeats 1000000 in
theorem holdsOnly_any (s r : ByteArray) (w : World) (hs : s.size ≤ 1048576) :
    Calls Try.prog 35 #[.string s, .string r] w fun e w' => e = .returned (.bool (holds r.data.toList s.data.toList)) ∧ w' = w := by
  go_enter Try.func35, Try.ntmps35
  go_wp2
  go_loop [5] (fun i => ∃ k : Nat, k ≤ s.size ∧ i = .int .i64 k ∧ Hid (holds r.data.toList (s.data.toList.take k) = true)) (fun i => s.size - (intOf i).toNat)
  case atStart => exact ⟨0, Nat.zero_le _, rfl, rfl⟩
  case round =>
    obtain ⟨k, hk, rfl, hall⟩ := hrel
    by_cases hlt : k < s.size
    · by_cases h1 : (s[k].toNat : Int) ≤ 32
      · have HB : Hid (holds r.data.toList s.data.toList = false) := holds_bad _ s k hlt (ok_low _ _ h1)
        go_wp2
        go_ret
        exact ⟨ret_bool HB.out.symm, rfl⟩
      · by_cases h2 : 126 < (s[k].toNat : Int)
        · have HB : Hid (holds r.data.toList s.data.toList = false) := holds_bad _ s k hlt (ok_high _ _ h2)
          go_wp2
          go_ret
          exact ⟨ret_bool HB.out.symm, rfl⟩
        · by_cases h3 : 0 ≤ Lib.indexByte r.data.toList s[k]
          · have HB : Hid (holds r.data.toList s.data.toList = false) := holds_bad _ s k hlt (ok_in _ _ h3)
            go_wp2_with (go_at_call 42; refine (indexByte_any _ _ _).mono ?_; rintro e w' ⟨rfl, rfl⟩)
            go_ret
            exact ⟨ret_bool HB.out.symm, rfl⟩
          · have h3' : Lib.indexByte r.data.toList s[k] < 0 := by omega
            have HN : Hid (holds r.data.toList (s.data.toList.take (k + 1)) = true) := by
              show _ = _
              rw [take_snoc s k hlt, holds_snoc, hall.out, ok_yes _ _ (by omega) (by omega) h3']; rfl
            go_wp2_with (go_at_call 42; refine (indexByte_any _ _ _).mono ?_; rintro e w' ⟨rfl, rfl⟩)
            go_round
            case rel => exact ⟨k + 1, by omega, by go_num, HN⟩
            case measure => simp [intOf]; omega
    · have HF : Hid (holds r.data.toList s.data.toList = true) := by
        have := hall.out
        rw [List.take_of_length_le (by simp; omega)] at this
        exact this
      go_wp2
      go_ret
      exact ⟨ret_bool HF.out.symm, rfl⟩

/-! ### strings.HasSuffix at "@" -/

theorem endsAt_empty (s : ByteArray) (h : s.size = 0) : endsAt s.data.toList = false := by
  have : s.data.toList = [] := List.length_eq_zero_iff.1 (by simpa using h)
  rw [this]; rfl

theorem endsAt_last (s : ByteArray) (h : 0 < s.size) : endsAt s.data.toList = ((s[s.size - 1].toNat : Int) == 64) := by
  unfold endsAt
  rw [List.getLast?_eq_getElem?, len_list, List.getElem?_eq_getElem (by simp; omega), ← get_list s (s.size - 1) (by omega)]
  rw [Bool.eq_iff_iff]
  simp only [beq_iff_eq, Option.some.injEq]
  constructor
  · intro e; rw [e]; rfl
  · intro e
    apply UInt8.toNat_inj.1
    simp; omega

theorem last_list (s : ByteArray) (h : 0 < s.size) : (s.extract (s.size - 1) s.size).toList = [s[s.size - 1]] := by
  rw [Lib.toList_data, ByteArray.data_extract, Array.toList_extract]
  simp only [List.extract]
  have e : s.size - (s.size - 1) = 1 := by omega
  rw [e, drop_cons s (s.size - 1) (by omega)]
  simp

set_option maxHeartbeats 400000 in
theorem hasSuffix_any (s : ByteArray) (w : World) (hs : s.size ≤ 1048576) :
    Calls Try.prog 36 #[.string s, .string { data := #[64] }] w fun e w' => e = .returned (.bool (endsAt s.data.toList)) ∧ w' = w := by
  have h43 : Hid (∀ w : World, Calls Try.prog 43 #[.string s, .string { data := #[64] }] w fun e w' => e = .returned (.bool (endsAt s.data.toList)) ∧ w' = w) := by
    intro w
    by_cases h : 0 < s.size
    · have HE : Hid (endsAt s.data.toList = ((s.extract (s.size - 1) s.size).toList == [64])) := by
        show _ = _
        rw [endsAt_last s h, last_list s h, Bool.eq_iff_iff]
        simp only [beq_iff_eq, List.cons.injEq, and_true]
        constructor
        · intro e; apply UInt8.toNat_inj.1; simp; omega
        · intro e; rw [e]; rfl
      go_enter Try.func43, Try.ntmps43
      go_wp2
      go_ret
      exact ⟨ret_bool HE.out.symm, rfl⟩
    · have HE : Hid (endsAt s.data.toList = false) := endsAt_empty s (by omega)
      go_enter Try.func43, Try.ntmps43
      go_wp2
      go_ret
      exact ⟨ret_bool HE.out.symm, rfl⟩
  go_enter Try.func36, Try.ntmps36
  go_wp2_with (go_at_call 43; refine (h43.out _).mono ?_; rintro e w' ⟨rfl, rfl⟩)
  go_ret
  exact ⟨rfl, rfl⟩

/-! ### zzAuthorityByte -/

theorem okA_eq (c : UInt8) (n : Nat) (hn : n < 256) (hm : refusedA.contains n.toUInt8 = true) (h : ((c.toNat : Int) == (n : Int)) = true) : okByte refusedA c = false := by
  rw [byte_eq c n hn h]
  unfold okByte
  simp only [hm, Bool.not_true, Bool.and_false]

theorem okA_out (c : UInt8) (h : (c.toNat : Int) < 33 ∨ 126 < (c.toNat : Int)) : okByte refusedA c = false := by
  rcases h with h | h
  · exact ok_low _ _ (by omega)
  · exact ok_high _ _ h

theorem okA_yes (c : UInt8) (h : 33 ≤ (c.toNat : Int) ∧ (c.toNat : Int) ≤ 126) (h1 : ((c.toNat : Int) == 34) = false) (h2 : ((c.toNat : Int) == 60) = false) (h3 : ((c.toNat : Int) == 62) = false)
    (h4 : ((c.toNat : Int) == 92) = false) (h5 : ((c.toNat : Int) == 94) = false) (h6 : ((c.toNat : Int) == 96) = false) (h7 : ((c.toNat : Int) == 123) = false) (h8 : ((c.toNat : Int) == 124) = false)
    (h9 : ((c.toNat : Int) == 125) = false) : okByte refusedA c = true := by
  have e1 := byte_ne c 34 (by decide) h1
  have e2 := byte_ne c 60 (by decide) h2
  have e3 := byte_ne c 62 (by decide) h3
  have e4 := byte_ne c 92 (by decide) h4
  have e5 := byte_ne c 94 (by decide) h5
  have e6 := byte_ne c 96 (by decide) h6
  have e7 := byte_ne c 123 (by decide) h7
  have e8 := byte_ne c 124 (by decide) h8
  have e9 := byte_ne c 125 (by decide) h9
  have a : 32 < c.toNat := by omega
  have b : c.toNat ≤ 126 := by omega
  unfold okByte refusedA
  simp only [a, b, decide_true, Bool.true_and, Bool.not_eq_true', List.contains_eq_mem, List.mem_cons, List.not_mem_nil, or_false, decide_eq_false_iff_not]
  rintro (h | h | h | h | h | h | h | h | h)
  · exact e1 h
  · exact e2 h
  · exact e3 h
  · exact e4 h
  · exact e5 h
  · exact e6 h
  · exact e7 h
  · exact e8 h
  · exact e9 h

set_option maxHeartbeats 1000000 in
theorem authorityByte_any (c : UInt8) (w : World) :
    Calls Try.prog 18 #[.int .u8 (c.toNat : Int)] w fun e w' => e = .returned (.bool (okByte refusedA c)) ∧ w' = w := by
  have hlt : c.toNat < 256 := c.toNat_lt
  go_enter Try.func18, Try.ntmps18
  go_wp2
  all_goals go_ret
  all_goals first
    | exact ⟨ret_bool (okA_eq c 34 (by decide) (by decide) (by assumption)).symm, rfl⟩
    | exact ⟨ret_bool (okA_eq c 60 (by decide) (by decide) (by assumption)).symm, rfl⟩
    | exact ⟨ret_bool (okA_eq c 62 (by decide) (by decide) (by assumption)).symm, rfl⟩
    | exact ⟨ret_bool (okA_eq c 92 (by decide) (by decide) (by assumption)).symm, rfl⟩
    | exact ⟨ret_bool (okA_eq c 94 (by decide) (by decide) (by assumption)).symm, rfl⟩
    | exact ⟨ret_bool (okA_eq c 96 (by decide) (by decide) (by assumption)).symm, rfl⟩
    | exact ⟨ret_bool (okA_eq c 123 (by decide) (by decide) (by assumption)).symm, rfl⟩
    | exact ⟨ret_bool (okA_eq c 124 (by decide) (by decide) (by assumption)).symm, rfl⟩
    | exact ⟨ret_bool (okA_eq c 125 (by decide) (by decide) (by assumption)).symm, rfl⟩
    | exact ⟨ret_bool (okA_yes c (by omega) (by assumption) (by assumption) (by assumption) (by assumption) (by assumption) (by assumption) (by assumption) (by assumption) (by assumption)).symm, rfl⟩
    | exact ⟨ret_bool (okA_out c (by omega)).symm, rfl⟩

/-! ### zzCount -/

def cntB (l : List UInt8) (b : UInt8) : Nat := l.count b

theorem count_snoc (s : ByteArray) (k : Nat) (b : UInt8) (h : k < s.size) : (s.data.toList.take (k + 1)).count b = (s.data.toList.take k).count b + if s[k] = b then 1 else 0 := by
  rw [take_snoc s k h, List.count_append, List.count_singleton]
  by_cases e : s[k] = b <;> simp [e]

theorem count_bound (s : ByteArray) (k : Nat) (b : UInt8) : (s.data.toList.take k).count b ≤ k :=
  Nat.le_trans List.count_le_length (List.length_take_le _ _)

set_option maxHeartbeats 400000 in
theorem count_any (s : ByteArray) (b : UInt8) (w : World) (hs : s.size ≤ 1048576) :
    Calls Try.prog 19 #[.string s, .int .u8 (b.toNat : Int)] w fun e w' => e = .returned (.int .i64 (cntB s.data.toList b : Int)) ∧ w' = w := by
  go_enter Try.func19, Try.ntmps19
  go_wp2
  go_loop [5, 6] (fun n i => ∃ k m : Nat, k ≤ s.size ∧ i = .int .i64 k ∧ n = .int .i64 (m : Int) ∧ m ≤ k ∧ Hid (m = (s.data.toList.take k).count b)) (fun _ i => s.size - (intOf i).toNat)
  case atStart => exact ⟨0, 0, Nat.zero_le _, rfl, rfl, Nat.le_refl _, rfl⟩
  case round =>
    obtain ⟨k, m, hk, rfl, rfl, hm, hcnt⟩ := hrel
    by_cases hlt : k < s.size
    · cases he : ((s[k].toNat : Int) == (b.toNat : Int))
      · have HN : Hid (m = (s.data.toList.take (k + 1)).count b) := by
          show _ = _
          rw [count_snoc s k b hlt, if_neg, hcnt.out, Nat.add_zero]
          intro e; rw [e] at he; simp at he
        go_wp2
        go_round
        case rel => exact ⟨k + 1, m, by omega, by go_num, rfl, by omega, HN⟩
        case measure => simp [intOf]; omega
      · have HN : Hid (m + 1 = (s.data.toList.take (k + 1)).count b) := by
          show _ = _
          rw [count_snoc s k b hlt, if_pos, hcnt.out]
          apply UInt8.toNat_inj.1
          simp at he; omega
        go_wp2
        go_round
        case rel => exact ⟨k + 1, m + 1, by omega, by go_num, by go_num, by omega, HN⟩
        case measure => simp [intOf]; omega
    · have HF : Hid (m = cntB s.data.toList b) := by
        have := hcnt.out
        rw [List.take_of_length_le (by simp; omega)] at this
        exact this
      go_wp2
      go_ret
      exact ⟨ret_int (by rw [HF.out]), rfl⟩

end Go.Proofs.Qxb6602896a.Url
