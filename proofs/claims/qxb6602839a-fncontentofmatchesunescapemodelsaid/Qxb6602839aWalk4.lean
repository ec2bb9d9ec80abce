/-
  Seat b6602839a: the walk of the law's own automaton, contentModel, and of FnContentOfMatchesUnescapeModel.
-/
import Derived.Test.Qxb6602839aOwn
namespace Go.Proofs.Qxb6602839a.Cnt
open Go.RowKit

def inner (s : ByteArray) : List UInt8 := (s.data.toList.drop 1).take (s.size - 2)

theorem inner_cons (s : ByteArray) (j : Nat) (h : j + 1 < s.size - 1) : (inner s).drop j = s[j + 1] :: (inner s).drop (j + 1) := by
  have hl : (inner s).length = s.size - 2 := by simp [inner]; omega
  rw [List.drop_eq_getElem_cons (by omega)]
  congr 1
  simp only [inner, List.getElem_take, List.getElem_drop]
  rw [get_list]
  congr 1
  omega

theorem inner_end (s : ByteArray) (j : Nat) (h : ¬ j + 1 < s.size - 1) : (inner s).drop j = [] := by
  apply List.drop_eq_nil_of_le
  simp [inner]; omega

theorem model_true (s : ByteArray) (j : Nat) (acc : List UInt8) (h : j + 1 < s.size - 1) (ha : acc ++ esc true ((inner s).drop j) = esc false (inner s)) :
    acc ++ [s[j + 1]] ++ esc false ((inner s).drop (j + 1)) = esc false (inner s) := by
  rw [inner_cons s j h, esc] at ha
  rw [← ha]; simp

theorem model_bs (s : ByteArray) (j : Nat) (acc : List UInt8) (h : j + 1 < s.size - 1) (h92 : ((s[j + 1].toNat : Int) == 92) = true) (ha : acc ++ esc false ((inner s).drop j) = esc false (inner s)) :
    acc ++ esc true ((inner s).drop (j + 1)) = esc false (inner s) := by
  have e : s[j + 1] = 92 := byte_eq s[j + 1] 92 (by decide) h92
  rw [inner_cons s j h, esc, if_pos e] at ha
  exact ha

theorem model_plain (s : ByteArray) (j : Nat) (acc : List UInt8) (h : j + 1 < s.size - 1) (h92 : ((s[j + 1].toNat : Int) == 92) = false) (ha : acc ++ esc false ((inner s).drop j) = esc false (inner s)) :
    acc ++ [s[j + 1]] ++ esc false ((inner s).drop (j + 1)) = esc false (inner s) := by
  have e : s[j + 1] ≠ 92 := by intro e; rw [e] at h92; simp at h92
  rw [inner_cons s j h, esc, if_neg e] at ha
  rw [← ha]; simp

theorem content_inner (s : ByteArray) (h2 : 2 ≤ s.size) (h34 : ((s[0].toNat : Int) != 34) = false) : content s.data.toList = esc false (inner s) := by
  have hl : s.data.toList.length = s.size := by simp
  have hhead : s.data.toList.headD 0 = s[0]'(by omega) := by
    rw [get_list]
    exact headD_get _ _
  have e34 : s[0]'(by omega) = 34 := by
    apply UInt8.toNat_inj.1
    simp at h34; simp; omega
  rw [esc_unesc _ _ (Nat.le_refl _)]
  unfold content inner
  rw [if_neg, hl]
  rintro (h | h)
  · omega
  · exact h (by rw [hhead, e34])

theorem content_same (s : ByteArray) (h : s.size < 2 ∨ ∃ h : 2 ≤ s.size, ((s[0].toNat : Int) != 34) = true) : content s.data.toList = s.data.toList := by
  have hl : s.data.toList.length = s.size := by simp
  unfold content
  rw [if_pos]
  rcases h with h | ⟨h, h34⟩
  · left; omega
  · right
    have hhead : s.data.toList.headD 0 = s[0]'(by omega) := by
      rw [get_list]
      exact headD_get _ _
    rw [hhead]
    intro e
    rw [e] at h34
    simp at h34

set_option maxHeartbeats 400000 in
theorem model_same (s : ByteArray) (w : World) (hs : s.size ≤ 1048576) (h : s.size < 2 ∨ ∃ h : 2 ≤ s.size, ((s[0].toNat : Int) != 34) = true) :
    Calls Try.prog 7 #[.string s] w fun e w' => e = .returned (.string s) ∧ w' = w := by
  rcases h with h | ⟨h, h34⟩
  · go_enter Try.func7, Try.ntmps7
    go_wp2
    go_ret
    exact ⟨rfl, rfl⟩
  · go_enter Try.func7, Try.ntmps7
    go_wp2
    go_ret
    exact ⟨rfl, rfl⟩

set_option maxHeartbeats 1000000 in
theorem model_quoted (s : ByteArray) (w : World) (hs : s.size ≤ 1048576) (h2 : 2 ≤ s.size) (h34 : ((s[0].toNat : Int) != 34) = false) :
    Calls Try.prog 7 #[.string s] w fun e w' => e = .returned (.string ⟨(esc false (inner s)).toArray⟩) ∧ Below w.heap.size w w' := by
  obtain ⟨i0, hi, hz0, hz1, hz2⟩ := info_parts Info5
  go_enter Try.func7, Try.ntmps7
  go_wp2_with (at_make; refine wpList_make_own _ rfl _ _ 24 rfl w.heap.size 5 i0 (.int .u8 0) 1 Try.underlying24 hi hz0 hz1 .i64 .i64 _ s.size rfl rfl (by omega) (by rw [hz2]; omega) (by unfold maxLen; omega) (Nat.le_refl _) ?_; intro w0 hown0 hgrow0)
  have hR0 : Row w w.heap.size s.size [] w0 := ⟨hown0, (Below.refl _ w).grown hgrow0 (Nat.le_refl _) (by intro k hk; cases hk)⟩
  clear hown0 hgrow0
  go_loopw [3, 4, 5] (fun q b i wr => ∃ (j : Nat) (acc : List UInt8) (f : Bool), j + 2 ≤ s.size ∧ i = .int .i64 ((j : Int) + 1) ∧ b = .bool f ∧ q = .slice (some ⟨w.heap.size, 0, none⟩) acc.length s.size ∧ Row w w.heap.size s.size acc wr ∧ Hid (acc ++ esc f ((inner s).drop j) = esc false (inner s)) ∧ acc.length ≤ j) (fun _ _ i _ => s.size - (intOf i).toNat)
  case atStart => exact ⟨0, [], false, h2, rfl, rfl, rfl, hR0, rfl, Nat.le_refl _⟩
  case round =>
    obtain ⟨j, acc, f, hj, rfl, rfl, rfl, hR, hacc, hal⟩ := hrel
    have hsz := hR.size
    by_cases hlt : j + 1 < s.size - 1
    · cases f
      · cases h92 : ((s[j + 1].toNat : Int) == 92)
        · have HN : Hid (acc ++ [s[j + 1]] ++ esc false ((inner s).drop (j + 1)) = esc false (inner s)) := model_plain s j acc hlt h92 hacc.out
          go_wp2_with (at_builtin; refine wpList_append_fits _ rfl (.tmp 36) (.tmp 38) 24 rfl w.heap.size 5 i0 1 Try.underlying24 hi hz1 w.heap.size acc.length s.size _ rfl (hR.own.alloc _) ⟨wr.heap.size, 0, none⟩ 1 1 [.int .u8 (s[j + 1].toNat : Int)] rfl rfl (cell_one_new _ _ _) (ints_oneCell .u8 [(s[j + 1].toNat : Int)]) (by omega) ?_; intro w2 hown2 hgrow2)
          have hR2 := hR.push (c := s[j + 1]) hown2 hgrow2
          go_roundw
          case rel => exact ⟨j + 1, acc ++ [s[j + 1]], false, by omega, by go_num, rfl, by simp, hR2, HN, by simp; omega⟩
          case measure => simp [intOf]; omega
        · have HN : Hid (acc ++ esc true ((inner s).drop (j + 1)) = esc false (inner s)) := model_bs s j acc hlt h92 hacc.out
          go_wp2
          go_roundw
          case rel => exact ⟨j + 1, acc, true, by omega, by go_num, rfl, rfl, hR, HN, by omega⟩
          case measure => simp [intOf]; omega
      · have HN : Hid (acc ++ [s[j + 1]] ++ esc false ((inner s).drop (j + 1)) = esc false (inner s)) := model_true s j acc hlt hacc.out
        go_wp2_with (at_builtin; refine wpList_append_fits _ rfl (.tmp 30) (.tmp 32) 24 rfl w.heap.size 5 i0 1 Try.underlying24 hi hz1 w.heap.size acc.length s.size _ rfl (hR.own.alloc _) ⟨wr.heap.size, 0, none⟩ 1 1 [.int .u8 (s[j + 1].toNat : Int)] rfl rfl (cell_one_new _ _ _) (ints_oneCell .u8 [(s[j + 1].toNat : Int)]) (by omega) ?_; intro w2 hown2 hgrow2)
        have hR2 := hR.push (c := s[j + 1]) hown2 hgrow2
        go_roundw
        case rel => exact ⟨j + 1, acc ++ [s[j + 1]], false, by omega, by go_num, rfl, by simp, hR2, HN, by simp; omega⟩
        case measure => simp [intOf]; omega
    · cases f
      · have hconv := hR.string
        have HF : Hid (acc = esc false (inner s)) := by
          have := hacc.out
          rw [inner_end s j hlt] at this
          show _ = _
          simpa [esc] using this
        go_wp2
        go_ret
        exact ⟨ret_string (by rw [HF.out]), hR.bel⟩
      · have HF : Hid (acc ++ [92] = esc false (inner s)) := by
          have := hacc.out
          rw [inner_end s j hlt] at this
          show _ = _
          simpa [esc] using this
        go_wp2_with (at_builtin; refine wpList_append_fits _ rfl (.tmp 41) (.tmp 42) 24 rfl w.heap.size 5 i0 1 Try.underlying24 hi hz1 w.heap.size acc.length s.size _ rfl (hR.own.alloc _) ⟨wr.heap.size, 0, none⟩ 1 1 [.int .u8 92] rfl rfl (cell_one_new _ _ _) (ints_oneCell .u8 [92]) (by omega) ?_; intro w2 hown2 hgrow2; have hR2 := hR.push (c := 92) hown2 hgrow2; have hconv := hR2.string; rw [List.length_append, List.length_singleton] at hconv)
        go_ret
        exact ⟨ret_string (by rw [HF.out]), hR2.bel⟩

theorem contentModel_any (s : ByteArray) (hs : s.size ≤ 1048576) (w : World) :
    Calls Try.prog 7 #[.string s] w fun e w' => e = .returned (.string ⟨(content s.data.toList).toArray⟩) ∧ Below w.heap.size w w' := by
  by_cases h2 : s.size < 2
  · refine (model_same s w hs (.inl h2)).mono ?_
    rintro e w' ⟨rfl, rfl⟩
    exact ⟨ret_string (same_bytes s _ (content_same s (.inl h2))), Below.refl _ _⟩
  · cases h34 : ((s[0].toNat : Int) != 34)
    · rw [content_inner s (by omega) h34]
      exact model_quoted s w hs (by omega) h34
    · refine (model_same s w hs (.inr ⟨by omega, h34⟩)).mono ?_
      rintro e w' ⟨rfl, rfl⟩
      exact ⟨ret_string (same_bytes s _ (content_same s (.inr ⟨by omega, h34⟩))), Below.refl _ _⟩

set_option maxHeartbeats 400000 in
theorem matches_walk (s : ByteArray) (hs : s.size ≤ 1048576) (w : World) :
    Calls Try.prog 3 #[.string s] w fun e w' => e = .returned (.bool true) ∧ Below w.heap.size w w' := by
  go_enter Try.func3, Try.ntmps3
  go_wp2_with (first | (go_at_call 5; refine (bytes5_any _ _ hs).mono ?_; rintro e w ⟨rfl, rfl⟩) | fail)
  refine (zzContentOf_any s (by omega) _).mono ?_
  rintro e w1 ⟨rfl, hb1⟩
  go_wp2_with fail
  refine (contentModel_any s hs _).mono ?_
  rintro e w2 ⟨rfl, hb2⟩
  generalize (⟨(content s.data.toList).toArray⟩ : ByteArray) = r
  have hEq : (r.toList == r.toList) = true := by simp
  go_wp2
  go_ret
  exact ⟨rfl, hb1.trans (hb2.mono hb1.size)⟩

end Go.Proofs.Qxb6602839a.Cnt
