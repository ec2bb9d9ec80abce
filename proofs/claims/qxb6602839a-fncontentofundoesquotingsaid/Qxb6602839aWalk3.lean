/-
  Seat b6602839a: the walk of FnContentOfUndoesQuoting.
-/
import Derived.Test.Qxb6602839aOwn
namespace Go.Proofs.Qxb6602839a.Cnt
open Go.RowKit

theorem take_snoc (s : ByteArray) (k : Nat) (h : k < s.size) : s.data.toList.take (k + 1) = s.data.toList.take k ++ [s[k]] := by
  rw [List.take_succ_eq_append_getElem (by simpa using h)]; rfl

theorem len_snoc (acc : List UInt8) (c : UInt8) : (acc ++ [c]).length = acc.length + 1 := by simp

theorem quo_step_esc (x : ByteArray) (k : Nat) (acc : List UInt8) (h : k < x.size) (hc : ((x[k].toNat : Int) == 34) = true ∨ ((x[k].toNat : Int) == 92) = true)
    (ha : acc = 34 :: quo (x.data.toList.take k)) : acc ++ [92] ++ [x[k]] = 34 :: quo (x.data.toList.take (k + 1)) := by
  have hc' : x[k] = 34 ∨ x[k] = 92 := by
    rcases hc with h | h
    · exact .inl (byte_eq x[k] 34 (by decide) h)
    · exact .inr (byte_eq x[k] 92 (by decide) h)
  rw [take_snoc x k h, quo_append, ha]
  simp [quo, hc']

theorem quo_step_plain (x : ByteArray) (k : Nat) (acc : List UInt8) (h : k < x.size) (h1 : ((x[k].toNat : Int) == 34) = false) (h2 : ((x[k].toNat : Int) == 92) = false)
    (ha : acc = 34 :: quo (x.data.toList.take k)) : acc ++ [x[k]] = 34 :: quo (x.data.toList.take (k + 1)) := by
  have hc' : ¬ (x[k] = 34 ∨ x[k] = 92) := by
    rintro (e | e)
    · rw [e] at h1; simp at h1
    · rw [e] at h2; simp at h2
  rw [take_snoc x k h, quo_append, ha]
  simp [quo, hc']

theorem quo_len (x : ByteArray) (k : Nat) (acc : List UInt8) (ha : acc = 34 :: quo (x.data.toList.take k)) : acc.length ≤ 2 * k + 1 := by
  have := quo_length (x.data.toList.take k)
  rw [ha]
  have hl : (x.data.toList.take k).length ≤ k := List.length_take_le _ _
  simp only [List.length_cons]
  omega

set_option maxHeartbeats 1000000 in
theorem quoting_walk (x : ByteArray) (hs : x.size ≤ 1048576) (w : World) :
    Calls Try.prog 4 #[.string x] w fun e w' => e = .returned (.bool true) ∧ Below w.heap.size w w' := by
  obtain ⟨i0, hi, hz0, hz1, hz2⟩ := info_parts Info5
  go_enter Try.func4, Try.ntmps4
  go_wp2_with (first
    | (go_at_call 8; refine (bytes8_any _ _ hs).mono ?_; rintro e w ⟨rfl, rfl⟩)
    | (at_make; refine wpList_make_own _ rfl _ _ 24 rfl w.heap.size 5 i0 (.int .u8 0) 1 Try.underlying24 hi hz0 hz1 .i64 .i64 _ (2 * x.size + 2) rfl rfl (by omega) (by rw [hz2]; omega) (by unfold maxLen; omega) (Nat.le_refl _) ?_; intro w0 hown0 hgrow0)
    | (at_builtin; refine wpList_append_fits _ rfl (.tmp 16) (.tmp 17) 24 rfl w.heap.size 5 i0 1 Try.underlying24 hi hz1 w.heap.size 0 (2 * x.size + 2) [] rfl (hown0.alloc _) ⟨w0.heap.size, 0, none⟩ 1 1 [.int .u8 34] rfl rfl (cell_one_new _ _ _) (ints_oneCell .u8 [34]) (by omega) ?_; intro w1 hown1 hgrow1))
  have hR0 : Row w w.heap.size (2 * x.size + 2) [34] w1 :=
    ⟨hown1, (((Below.refl _ w).grown hgrow0 (Nat.le_refl _) (by intro k hk; cases hk)).alloc hgrow0.size _).grown hgrow1 (by have := hgrow0.size; simp; omega) (by intro k hk; simp at hk; omega)⟩
  clear hown1 hgrow1 hown0 hgrow0
  go_loopw [3, 4] (fun q i wr => ∃ (k : Nat) (acc : List UInt8), k ≤ x.size ∧ i = .int .i64 k ∧ q = .slice (some ⟨w.heap.size, 0, none⟩) acc.length (2 * x.size + 2) ∧ Row w w.heap.size (2 * x.size + 2) acc wr ∧ Hid (acc = 34 :: quo (x.data.toList.take k)) ∧ acc.length ≤ 2 * k + 1) (fun _ i _ => x.size - (intOf i).toNat)
  case atStart => exact ⟨0, [34], Nat.zero_le _, rfl, rfl, hR0, rfl, Nat.le_refl _⟩
  case round =>
    obtain ⟨k, acc, hk, rfl, rfl, hR, hacc, hal⟩ := hrel
    have hsz := hR.size
    by_cases hlt : k < x.size
    · cases h34 : ((x[k].toNat : Int) == 34)
      · cases h92 : ((x[k].toNat : Int) == 92)
        · have hnew := quo_step_plain x k acc hlt h34 h92 hacc.out
          have HN : Hid (acc ++ [x[k]] = 34 :: quo (x.data.toList.take (k + 1))) := hnew
          have hln := quo_len x (k + 1) _ hnew
          clear hnew
          go_wp2_with (at_builtin; refine wpList_append_fits _ rfl (.tmp 38) (.tmp 42) 24 rfl w.heap.size 5 i0 1 Try.underlying24 hi hz1 w.heap.size acc.length (2 * x.size + 2) _ rfl (hR.own.alloc _) ⟨wr.heap.size, 0, none⟩ 1 1 [.int .u8 (x[k].toNat : Int)] rfl rfl (cell_one_new _ _ _) (ints_oneCell .u8 [(x[k].toNat : Int)]) (by omega) ?_; intro w2 hown2 hgrow2)
          have hR2 := hR.push (c := x[k]) hown2 hgrow2
          go_roundw
          case rel => exact ⟨k + 1, acc ++ [x[k]], by omega, by go_num, by simp, hR2, HN, hln⟩
          case measure => simp [intOf]; omega
        · have hnew := quo_step_esc x k acc hlt (by simp [h34, h92]) hacc.out
          have HN : Hid (acc ++ [92] ++ [x[k]] = 34 :: quo (x.data.toList.take (k + 1))) := hnew
          have hln := quo_len x (k + 1) _ hnew
          clear hnew
          go_wp2_with (first
            | (at_builtin; refine wpList_append_fits _ rfl (.tmp 35) (.tmp 36) 24 rfl w.heap.size 5 i0 1 Try.underlying24 hi hz1 w.heap.size acc.length (2 * x.size + 2) _ rfl (hR.own.alloc _) ⟨wr.heap.size, 0, none⟩ 1 1 [.int .u8 92] rfl rfl (cell_one_new _ _ _) (ints_oneCell .u8 [92]) (by omega) ?_; intro w2 hown2 hgrow2)
            | (at_builtin; refine wpList_append_fits _ rfl (.tmp 38) (.tmp 42) 24 rfl w.heap.size 5 i0 1 Try.underlying24 hi hz1 w.heap.size (acc.length + 1) (2 * x.size + 2) _ rfl (hown2.alloc _) ⟨w2.heap.size, 0, none⟩ 1 1 [.int .u8 (x[k].toNat : Int)] rfl rfl (cell_one_new _ _ _) (ints_oneCell .u8 [(x[k].toNat : Int)]) (by omega) ?_; intro w3 hown3 hgrow3))
          have hR2 := hR.push (c := 92) hown2 hgrow2
          have hR3 := hR2.push (c := x[k]) (by rw [cells_snoc, len_snoc]; exact hown3) hgrow3
          go_roundw
          case rel => exact ⟨k + 1, acc ++ [92] ++ [x[k]], by omega, by go_num, by simp, hR3, HN, hln⟩
          case measure => simp [intOf]; omega
      · have hnew := quo_step_esc x k acc hlt (by simp [h34]) hacc.out
        have HN : Hid (acc ++ [92] ++ [x[k]] = 34 :: quo (x.data.toList.take (k + 1))) := hnew
        have hln := quo_len x (k + 1) _ hnew
        clear hnew
        go_wp2_with (first
          | (at_builtin; refine wpList_append_fits _ rfl (.tmp 35) (.tmp 36) 24 rfl w.heap.size 5 i0 1 Try.underlying24 hi hz1 w.heap.size acc.length (2 * x.size + 2) _ rfl (hR.own.alloc _) ⟨wr.heap.size, 0, none⟩ 1 1 [.int .u8 92] rfl rfl (cell_one_new _ _ _) (ints_oneCell .u8 [92]) (by omega) ?_; intro w2 hown2 hgrow2)
          | (at_builtin; refine wpList_append_fits _ rfl (.tmp 38) (.tmp 42) 24 rfl w.heap.size 5 i0 1 Try.underlying24 hi hz1 w.heap.size (acc.length + 1) (2 * x.size + 2) _ rfl (hown2.alloc _) ⟨w2.heap.size, 0, none⟩ 1 1 [.int .u8 (x[k].toNat : Int)] rfl rfl (cell_one_new _ _ _) (ints_oneCell .u8 [(x[k].toNat : Int)]) (by omega) ?_; intro w3 hown3 hgrow3))
        have hR2 := hR.push (c := 92) hown2 hgrow2
        have hR3 := hR2.push (c := x[k]) (by rw [cells_snoc, len_snoc]; exact hown3) hgrow3
        go_roundw
        case rel => exact ⟨k + 1, acc ++ [92] ++ [x[k]], by omega, by go_num, by simp, hR3, HN, hln⟩
        case measure => simp [intOf]; omega
    · have hfull : x.data.toList.take k = x.data.toList := List.take_of_length_le (by simp; omega)
      have hT : (⟨(content (⟨(acc ++ [34]).toArray⟩ : ByteArray).data.toList).toArray⟩ : ByteArray) = x := by
        have e : (⟨(acc ++ [34]).toArray⟩ : ByteArray).data.toList = 34 :: (quo x.data.toList ++ [34]) := by
          have := hacc.out
          rw [hfull] at this
          rw [this]
          simp
        rw [e, content_quoted]
      have HT : Hid ((⟨(content (⟨(acc ++ [34]).toArray⟩ : ByteArray).data.toList).toArray⟩ : ByteArray) = x) := hT
      have hTs : Hid ((⟨(acc ++ [34]).toArray⟩ : ByteArray).size ≤ 4194304) := by
        show _ ≤ _
        have : (⟨(acc ++ [34]).toArray⟩ : ByteArray).size = acc.length + 1 := by show (acc ++ [34]).toArray.size = _; simp
        omega
      clear hT hfull
      have hEq : (x.toList == x.toList) = true := by simp
      go_wp2_with (first
        | (at_builtin; refine wpList_append_fits _ rfl (.tmp 44) (.tmp 45) 24 rfl w.heap.size 5 i0 1 Try.underlying24 hi hz1 w.heap.size acc.length (2 * x.size + 2) _ rfl (hR.own.alloc _) ⟨wr.heap.size, 0, none⟩ 1 1 [.int .u8 34] rfl rfl (cell_one_new _ _ _) (ints_oneCell .u8 [34]) (by omega) ?_; intro w2 hown2 hgrow2; have hR2 := hR.push (c := 34) hown2 hgrow2; have hconv := hR2.string; rw [len_snoc] at hconv)
        | fail)
      refine (zzContentOf_any _ hTs.out _).mono ?_
      rintro e w3 ⟨rfl, hb3⟩
      rw [HT.out]
      go_wp2
      go_ret
      exact ⟨rfl, hR2.bel.trans (hb3.mono (by have := hR2.size; omega))⟩

end Go.Proofs.Qxb6602839a.Cnt
