/-
  Seat b6602839a: contentOf at every string; the guards; the exported name.
-/
import Derived.Test.Qxb6602839aWalk1
import Derived.Lib.IndexLaws
namespace Go.Proofs.Qxb6602839a.Cnt
open Go.RowKit

theorem same_bytes (s : ByteArray) (l : List UInt8) (h : l = s.data.toList) : s = ⟨l.toArray⟩ := by
  subst h; simp

theorem extract_inner (s : ByteArray) (h : 2 ≤ s.size) : (s.extract 1 (s.size - 1)).data.toList = (s.data.toList.drop 1).take (s.data.toList.length - 2) := by
  have hl : s.data.toList.length = s.size := by simp
  rw [ByteArray.data_extract, Array.toList_extract, hl]
  simp [List.extract]
  omega

theorem headD_get (l : List UInt8) (h : 0 < l.length) : l.headD 0 = l[0] := by
  cases l with
  | nil => simp at h
  | cons a l => rfl

theorem contentOf_any (s : ByteArray) (hs : s.size ≤ 4194304) (w : World) :
    Calls Try.prog 9 #[.string s] w fun e w' => e = .returned (.string ⟨(content s.data.toList).toArray⟩) ∧ Below w.heap.size w w' := by
  have hl : s.data.toList.length = s.size := by simp
  by_cases h2 : s.size < 2
  · refine (content_short s w h2).mono ?_
    rintro e w' ⟨rfl, rfl⟩
    refine ⟨ret_string ?_, Below.refl _ _⟩
    exact same_bytes s _ (by unfold content; rw [if_pos (.inl (by omega))])
  · have hhead : s.data.toList.headD 0 = s[0]'(by omega) := by
      rw [get_list]
      exact headD_get _ _
    cases h34 : ((s[0].toNat : Int) != 34)
    · have e34 : s[0]'(by omega) = 34 := by
        apply UInt8.toNat_inj.1
        simp at h34; simp; omega
      have hc : content s.data.toList = unesc (s.extract 1 (s.size - 1)).data.toList := by
        rw [extract_inner s (by omega)]
        unfold content
        rw [if_neg]
        rintro (h | h)
        · omega
        · exact h (by rw [hhead, e34])
      rw [hc]
      cases hn : decide (0 ≤ Lib.indexByte (s.extract 1 (s.size - 1)).data.toList 92)
      · refine (content_plain s _ w (by omega) h34 hs rfl hn).mono ?_
        rintro e w' ⟨rfl, rfl⟩
        refine ⟨ret_string ?_, Below.refl _ _⟩
        apply same_bytes
        apply unesc_none
        intro hm
        have hge := Lib.indexByte_ge (s.extract 1 (s.size - 1)).data.toList 92
        have hneg : Lib.indexByte (s.extract 1 (s.size - 1)).data.toList 92 = -1 := by
          have := of_decide_eq_false hn
          omega
        obtain ⟨k, hk⟩ := List.mem_iff_getElem?.1 hm
        exact Lib.indexByte_none hneg k hk
      · exact content_escaped s _ w (by omega) h34 hs rfl (by rw [ByteArray.size_extract]; omega) hn
    · refine (content_bare s w (by omega) h34 hs).mono ?_
      rintro e w' ⟨rfl, rfl⟩
      refine ⟨ret_string ?_, Below.refl _ _⟩
      apply same_bytes
      unfold content
      rw [if_pos]
      right
      rw [hhead]
      intro e
      rw [e] at h34
      simp at h34

set_option maxHeartbeats 400000 in
theorem zzContentOf_any (s : ByteArray) (hs : s.size ≤ 4194304) (w : World) :
    Calls Try.prog 6 #[.string s] w fun e w' => e = .returned (.string ⟨(content s.data.toList).toArray⟩) ∧ Below w.heap.size w w' := by
  go_enter Try.func6, Try.ntmps6
  go_wp2_with fail
  refine (contentOf_any s hs _).mono ?_
  rintro e w' ⟨rfl, hb⟩
  go_wp2
  go_ret
  exact ⟨rfl, hb⟩

set_option maxHeartbeats 400000 in
theorem bytes5_any (s : ByteArray) (w : World) (hs : s.size ≤ 1048576) :
    Calls Try.prog 5 #[.string s] w fun e w' => e = .returned (.bool true) ∧ w' = w := by
  go_enter Try.func5, Try.ntmps5
  go_wp2
  go_ret
  exact ⟨rfl, rfl⟩

set_option maxHeartbeats 400000 in
theorem bytes5_no (s : ByteArray) (w : World) (hs : ¬ s.size ≤ 1048576) (hm : s.size ≤ maxLen) :
    Calls Try.prog 5 #[.string s] w fun e w' => e = .returned (.bool false) ∧ w' = w := by
  unfold maxLen at hm
  go_enter Try.func5, Try.ntmps5
  go_wp2
  go_ret
  exact ⟨rfl, rfl⟩

set_option maxHeartbeats 400000 in
theorem bytes8_any (s : ByteArray) (w : World) (hs : s.size ≤ 1048576) :
    Calls Try.prog 8 #[.string s] w fun e w' => e = .returned (.bool true) ∧ w' = w := by
  go_enter Try.func8, Try.ntmps8
  go_wp2
  go_ret
  exact ⟨rfl, rfl⟩

set_option maxHeartbeats 400000 in
theorem bytes8_no (s : ByteArray) (w : World) (hs : ¬ s.size ≤ 1048576) (hm : s.size ≤ maxLen) :
    Calls Try.prog 8 #[.string s] w fun e w' => e = .returned (.bool false) ∧ w' = w := by
  unfold maxLen at hm
  go_enter Try.func8, Try.ntmps8
  go_wp2
  go_ret
  exact ⟨rfl, rfl⟩

end Go.Proofs.Qxb6602839a.Cnt
