import Derived.Test.Qxb6602745aWalk1
namespace Go.Proofs.Qxb6602745a.Brk
open Go.RowKit

def bracketed (s : ByteArray) : ByteArray := { data := #[91] } ++ s ++ { data := #[93] }

set_option maxHeartbeats 400000 in
theorem bracket_yes (s : ByteArray) (w : World) (hs : s.size ≤ 1048576) (hc : hasColon s.data.toList = true) :
    Calls Try.prog 10 #[.string s] w fun e w' => e = .returned (.string (bracketed s)) ∧ w' = w := by
  go_enter Try.func10, Try.ntmps10
  go_wp2_with (go_at_call 11; refine (contains_colon _ _).mono ?_; rintro e w' ⟨rfl, rfl⟩; rw [hasColon_index, hc])
  go_ret
  exact ⟨rfl, rfl⟩

set_option maxHeartbeats 400000 in
theorem bracket_no (s : ByteArray) (w : World) (hc : hasColon s.data.toList = false) :
    Calls Try.prog 10 #[.string s] w fun e w' => e = .returned (.string s) ∧ w' = w := by
  go_enter Try.func10, Try.ntmps10
  go_wp2_with (go_at_call 11; refine (contains_colon _ _).mono ?_; rintro e w' ⟨rfl, rfl⟩; rw [hasColon_index, hc])
  go_ret
  exact ⟨rfl, rfl⟩

theorem zz_of {s t : ByteArray} (h : ∀ w : World, Calls Try.prog 10 #[.string s] w fun e w' => e = .returned (.string t) ∧ w' = w) (w : World) :
    Calls Try.prog 6 #[.string s] w fun e w' => e = .returned (.string t) ∧ w' = w := by
  have H : Hid (∀ w : World, Calls Try.prog 10 #[.string s] w fun e w' => e = .returned (.string t) ∧ w' = w) := h
  clear h
  go_enter Try.func6, Try.ntmps6
  go_wp2_with (go_at_call 10; refine (H.out _).mono ?_; rintro e w' ⟨rfl, rfl⟩)
  go_ret
  exact ⟨rfl, rfl⟩

set_option maxHeartbeats 400000 in
theorem unbracket_no (s : ByteArray) (w : World) (hs : s.size ≤ 1048578) (hc : hasColon s.data.toList = false) :
    Calls Try.prog 9 #[.string s] w fun e w' => e = .returned (.string s) ∧ w' = w := by
  go_enter Try.func9, Try.ntmps9
  go_wp2_with (go_at_call 8; refine (hasColon_any _ _ hs).mono ?_; rintro e w' ⟨rfl, rfl⟩; rw [hc])
  go_ret
  exact ⟨rfl, rfl⟩

set_option maxHeartbeats 400000 in
theorem unbracket_yes (s : ByteArray) (w : World) (hs : s.size ≤ 1048578) (hc : hasColon s.data.toList = true) (h2 : 2 ≤ s.size)
    (h91 : ((s[0].toNat : Int) == 91) = true) (h93 : ((s[s.size - 1].toNat : Int) == 93) = true) :
    Calls Try.prog 9 #[.string s] w fun e w' => e = .returned (.string (s.extract 1 (s.size - 1))) ∧ w' = w := by
  go_enter Try.func9, Try.ntmps9
  go_wp2_with (go_at_call 8; refine (hasColon_any _ _ hs).mono ?_; rintro e w' ⟨rfl, rfl⟩; rw [hc])
  go_ret
  exact ⟨rfl, rfl⟩

/-! ### The plain law -/
theorem bracketed_list (s : ByteArray) : (bracketed s).data.toList = 91 :: (s.data.toList ++ [93]) := by
  simp [bracketed]

theorem bracketed_size (s : ByteArray) : (bracketed s).size = s.size + 2 := by
  simp [bracketed, ByteArray.size_append]
  have h1 : ({ data := #[91] } : ByteArray).size = 1 := rfl
  have h2 : ({ data := #[93] } : ByteArray).size = 1 := rfl
  rw [h1, h2]; omega

theorem bracketed_colon (s : ByteArray) (hc : hasColon s.data.toList = true) : hasColon (bracketed s).data.toList = true := by
  rw [bracketed_list]
  unfold hasColon at *
  simp at hc ⊢
  exact hc

theorem get_list (s : ByteArray) (k : Nat) (h : k < s.size) : s[k] = s.data.toList[k]'(by simpa using h) := rfl

theorem bracketed_first (s : ByteArray) (h : 0 < (bracketed s).size) : (((bracketed s)[0].toNat : Int) == 91) = true := by
  rw [get_list]
  simp only [bracketed_list]
  rfl

theorem bracketed_last (s : ByteArray) (h : (bracketed s).size - 1 < (bracketed s).size) : (((bracketed s)[(bracketed s).size - 1].toNat : Int) == 93) = true := by
  rw [get_list]
  have e : (bracketed s).size - 1 = s.size + 1 := by rw [bracketed_size]; omega
  simp only [bracketed_list, e]
  simp

theorem bracketed_inner (s : ByteArray) : (bracketed s).extract 1 ((bracketed s).size - 1) = s := by
  apply ByteArray.ext
  apply Array.toList_inj.1
  have e : (bracketed s).size - 1 = s.size + 1 := by rw [bracketed_size]; omega
  rw [e, ByteArray.data_extract, Array.toList_extract, bracketed_list]
  simp [List.extract]

end Go.Proofs.Qxb6602745a.Brk
