/-
  The walks of seat b6602745a: what each Go function on the road computes.
-/
import Derived.Test.Qxb6602745aRows
import Derived.WalkKit
import Derived.WalkSpells
import Derived.WalkLawsBesides
import Derived.Lib.Bytealg
namespace Go.Proofs.Qxb6602745a.Brk
open Go.RowKit

set_option maxHeartbeats 400000 in
theorem bytes_any (s : ByteArray) (w : World) (hs : s.size ≤ 1048576) :
    Calls Try.prog 7 #[.string s] w fun e w' => e = .returned (.bool true) ∧ w' = w := by
  go_enter Try.func7, Try.ntmps7
  go_wp2
  go_ret
  exact ⟨rfl, rfl⟩

set_option maxHeartbeats 400000 in
theorem bytes_no (s : ByteArray) (w : World) (hs : ¬ s.size ≤ 1048576) (hm : s.size ≤ maxLen) :
    Calls Try.prog 7 #[.string s] w fun e w' => e = .returned (.bool false) ∧ w' = w := by
  unfold maxLen at hm
  go_enter Try.func7, Try.ntmps7
  go_wp2
  go_ret
  exact ⟨rfl, rfl⟩

set_option maxHeartbeats 400000 in
theorem indexByte_any (s : ByteArray) (c : Int) (w : World) :
    Calls Try.prog 14 #[.string s, .int .u8 c] w fun e w' => e = .returned (.int .i64 (Lib.indexByte s.data.toList c.toNat.toUInt8)) ∧ w' = w := by
  go_enter Try.func14, Try.ntmps14
  go_wp2
  rw [run_callFunc_extern Try.func18 (by kernel_rfl) (by kernel_rfl) (by kernel_rfl) (e := Extern.BytealgIndexByte.indexByte) (by kernel_rfl), Lib.run_indexByteString]
  simp only [Result.andThen]
  rw [Oper.upon_value]
  go_wp2
  go_ret
  exact ⟨rfl, rfl⟩

theorem toList_eq (s : ByteArray) : s.toList = s.data.toList := Lib.toList_data s

set_option maxHeartbeats 400000 in
theorem index_colon (s : ByteArray) (w : World) :
    Calls Try.prog 13 #[.string s, .string { data := #[58] }] w fun e w' => e = .returned (.int .i64 (Lib.indexByte s.data.toList 58)) ∧ w' = w := by
  by_cases h : ([58] == s.toList) = true
  · have hz : Hid (Lib.indexByte s.data.toList 58 = 0) := by
      rw [toList_eq] at h
      have h' : [58] = s.data.toList := by simpa using h
      rw [← h']; rfl
    go_enter Try.func13, Try.ntmps13
    go_wp2_with (go_at_call 14; refine (indexByte_any _ _ _).mono ?_; rintro e w' ⟨rfl, rfl⟩)
    go_ret
    rw [hz.out]
    exact ⟨rfl, rfl⟩
  · have h' : ([58] == s.toList) = false := by simpa using h
    go_enter Try.func13, Try.ntmps13
    go_wp2_with (go_at_call 14; refine (indexByte_any _ _ _).mono ?_; rintro e w' ⟨rfl, rfl⟩)
    go_ret
    exact ⟨rfl, rfl⟩

set_option maxHeartbeats 400000 in
theorem contains_colon (s : ByteArray) (w : World) :
    Calls Try.prog 11 #[.string s, .string { data := #[58] }] w fun e w' => e = .returned (.bool (decide (0 ≤ Lib.indexByte s.data.toList 58))) ∧ w' = w := by
  have h12 : ∀ w, Calls Try.prog 12 #[.string s, .string { data := #[58] }] w fun e w' => e = .returned (.int .i64 (Lib.indexByte s.data.toList 58)) ∧ w' = w := by
    intro w
    go_enter Try.func12, Try.ntmps12
    go_wp2_with (go_at_call 13; refine (index_colon _ _).mono ?_; rintro e w' ⟨rfl, rfl⟩)
    go_ret
    exact ⟨rfl, rfl⟩
  go_enter Try.func11, Try.ntmps11
  go_wp2_with (go_at_call 12; refine (h12 _).mono ?_; rintro e w' ⟨rfl, rfl⟩)
  go_ret
  exact ⟨rfl, rfl⟩

/-! ### zzB1HasColon -/
def hasColon (l : List UInt8) : Bool := l.contains 58

theorem hasColon_index : ∀ l : List UInt8, decide (0 ≤ Lib.indexByte l 58) = hasColon l
  | [] => rfl
  | b :: l => by
    have ih := hasColon_index l
    have hge := Lib.indexByte_ge l 58
    unfold Lib.indexByte hasColon
    by_cases h : (b == 58) = true
    · have hb : b = 58 := by simpa using h
      subst hb
      simp
    · simp only [h]
      unfold hasColon at ih
      have h2 : ¬ (58 : UInt8) = b := by intro e; apply h; simp [← e]
      by_cases hm : Lib.indexByte l 58 = -1
      · rw [hm] at ih
        simp [hm, h2] at ih ⊢
        exact ih
      · have hm' : 0 ≤ Lib.indexByte l 58 := by omega
        simp [hm'] at ih
        simp [hm, h2, ih]
        omega

theorem ret_bool {a b : Bool} (h : a = b) : Ending.returned (.bool a) = .returned (.bool b) := by rw [h]
theorem ret_string {a b : ByteArray} (h : a = b) : Ending.returned (.string a) = .returned (.string b) := by rw [h]

theorem take_snoc (s : ByteArray) (k : Nat) (h : k < s.size) : s.data.toList.take (k + 1) = s.data.toList.take k ++ [s[k]] := by
  rw [List.take_succ_eq_append_getElem (by simpa using h)]; rfl

theorem hasColon_hit (s : ByteArray) (k : Nat) (h : k < s.size) (h58 : ((s[k].toNat : Int) == 58) = true) : hasColon s.data.toList = true := by
  have h1 : s[k].toNat = 58 := by simp at h58; omega
  have h2 : s[k] = 58 := UInt8.toNat_inj.1 h1
  unfold hasColon
  rw [List.contains_iff_mem]
  have : s[k] ∈ s.data.toList := by
    have : s[k] = s.data[k]'h := rfl
    rw [this]; simp
  rw [h2] at this; exact this

theorem hasColon_step (s : ByteArray) (k : Nat) (h : k < s.size) (hno : hasColon (s.data.toList.take k) = false) (h58 : ((s[k].toNat : Int) == 58) = false) : hasColon (s.data.toList.take (k + 1)) = false := by
  have h1 : ¬ (s[k].toNat : Int) = 58 := by simpa using h58
  have h2 : ¬ (58 : UInt8) = s[k] := by intro e; apply h1; rw [← e]; rfl
  rw [take_snoc s k h]
  unfold hasColon at hno ⊢
  simp only [List.contains_eq_mem, List.mem_append, decide_eq_false_iff_not] at hno ⊢
  simp [hno, h2]

set_option maxHeartbeats 400000 in
theorem hasColon_any (s : ByteArray) (w : World) (hs : s.size ≤ 1048578) :
    Calls Try.prog 8 #[.string s] w fun e w' => e = .returned (.bool (hasColon s.data.toList)) ∧ w' = w := by
  go_enter Try.func8, Try.ntmps8
  go_wp2
  go_loop [3] (fun i => ∃ k : Nat, k ≤ s.size ∧ i = .int .i64 k ∧ Hid (hasColon (s.data.toList.take k) = false)) (fun i => s.size - (intOf i).toNat)
  case atStart => exact ⟨0, Nat.zero_le _, rfl, rfl⟩
  case round =>
    obtain ⟨k, hk, rfl, hno⟩ := hrel
    by_cases hlt : k < s.size
    · go_wp2
      · go_ret
        have h58 : ((s[k].toNat : Int) == 58) = true := by assumption
        refine ⟨ret_bool ?_, rfl⟩
        exact (hasColon_hit s k hlt h58).symm
      · go_round
        case rel =>
          have h58 : ((s[k].toNat : Int) == 58) = false := by assumption
          exact ⟨k + 1, by omega, by go_num, hasColon_step s k hlt hno.out h58⟩
        case measure => simp [intOf]; omega
    · go_wp2
      go_ret
      have := hno.out
      rw [List.take_of_length_le (by simp; omega)] at this
      exact ⟨ret_bool this.symm, rfl⟩

end Go.Proofs.Qxb6602745a.Brk
