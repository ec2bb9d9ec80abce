/-
  Seat b6602839a: the walk of contentOf.
-/
import Derived.Test.Qxb6602839aRows
import Derived.Test.Qxb6602839aShelf
import Derived.Test.Qxb6602839aPlain
import Derived.WalkKit
import Derived.WalkSpells
import Derived.WalkLawsBesides
namespace Go.Proofs.Qxb6602839a.Cnt
open Go.RowKit

theorem ret_string {a b : ByteArray} (h : a = b) : Ending.returned (.string a) = .returned (.string b) := by rw [h]

theorem get_list (s : ByteArray) (k : Nat) (h : k < s.size) : s[k] = s.data.toList[k]'(by simpa using h) := rfl

set_option maxHeartbeats 400000 in
theorem content_short (s : ByteArray) (w : World) (h : s.size < 2) :
    Calls Try.prog 9 #[.string s] w fun e w' => e = .returned (.string s) ∧ w' = w := by
  go_enter Try.func9, Try.ntmps9
  go_wp2
  go_ret
  exact ⟨rfl, rfl⟩

set_option maxHeartbeats 400000 in
theorem content_bare (s : ByteArray) (w : World) (h : 2 ≤ s.size) (h34 : ((s[0].toNat : Int) != 34) = true) (hs : s.size ≤ 4194304) :
    Calls Try.prog 9 #[.string s] w fun e w' => e = .returned (.string s) ∧ w' = w := by
  go_enter Try.func9, Try.ntmps9
  go_wp2
  go_ret
  exact ⟨rfl, rfl⟩

set_option maxHeartbeats 400000 in
theorem content_plain (s t : ByteArray) (w : World) (h : 2 ≤ s.size) (h34 : ((s[0].toNat : Int) != 34) = false) (hs : s.size ≤ 4194304)
    (ht : t = s.extract 1 (s.size - 1)) (hn : decide (0 ≤ Lib.indexByte t.data.toList 92) = false) :
    Calls Try.prog 9 #[.string s] w fun e w' => e = .returned (.string t) ∧ w' = w := by
  have HT : Hid (t = s.extract 1 (s.size - 1)) := ht
  clear ht
  have HN : Hid (decide (0 ≤ Lib.indexByte t.data.toList 92) = false) := hn
  clear hn
  go_enter Try.func9, Try.ntmps9
  go_wp2_with fail
  rw [← HT.out]
  refine (Try.strings_Contains_one _ _ _).mono ?_
  rintro e w' ⟨rfl, rfl⟩
  rw [HN.out]
  go_wp2
  go_ret
  exact ⟨rfl, rfl⟩

theorem drop_cons (t : ByteArray) (k : Nat) (h : k < t.size) : t.data.toList.drop k = t[k] :: t.data.toList.drop (k + 1) := by
  rw [List.drop_eq_getElem_cons (by simpa using h)]; rfl

theorem byte_eq (c : UInt8) (n : Nat) (hn : n < 256) (h : ((c.toNat : Int) == (n : Int)) = true) : c = n.toUInt8 := by
  apply UInt8.toNat_inj.1
  simp at h
  simp
  omega

theorem step_esc (t : ByteArray) (k : Nat) (acc : List UInt8) (h1 : k + 1 < t.size) (h92 : ((t[k].toNat : Int) == 92) = true)
    (h : acc ++ unesc (t.data.toList.drop k) = unesc t.data.toList) : (acc ++ [t[k + 1]]) ++ unesc (t.data.toList.drop (k + 2)) = unesc t.data.toList := by
  have e : t[k] = 92 := byte_eq t[k] 92 (by decide) h92
  rw [drop_cons t k (by omega), drop_cons t (k + 1) h1, e, unesc_esc] at h
  rw [← h]; simp

theorem step_last (t : ByteArray) (k : Nat) (acc : List UInt8) (h1 : k + 1 = t.size)
    (h : acc ++ unesc (t.data.toList.drop k) = unesc t.data.toList) : (acc ++ [t[k]]) ++ unesc (t.data.toList.drop (k + 1)) = unesc t.data.toList := by
  rw [drop_cons t k (by omega)] at h
  have e : t.data.toList.drop (k + 1) = [] := List.drop_eq_nil_of_le (by simp; omega)
  rw [e] at h ⊢
  rw [← h]; simp [unesc]

theorem step_plain (t : ByteArray) (k : Nat) (acc : List UInt8) (h1 : k < t.size) (h92 : ((t[k].toNat : Int) == 92) = false)
    (h : acc ++ unesc (t.data.toList.drop k) = unesc t.data.toList) : (acc ++ [t[k]]) ++ unesc (t.data.toList.drop (k + 1)) = unesc t.data.toList := by
  have e : t[k] ≠ 92 := by intro e; rw [e] at h92; simp at h92
  rw [drop_cons t k h1, unesc_plain _ _ e] at h
  rw [← h]; simp

theorem cells_snoc (acc : List UInt8) (c : UInt8) : Lib.byteCells (acc ++ [c]) = Lib.byteCells acc ++ [Value.int .u8 (c.toNat : Int)] := by
  rw [Lib.byteCells_append]; rfl

set_option maxHeartbeats 1000000 in
theorem content_escaped (s t : ByteArray) (w : World) (h : 2 ≤ s.size) (h34 : ((s[0].toNat : Int) != 34) = false) (hs : s.size ≤ 4194304)
    (ht : t = s.extract 1 (s.size - 1)) (htz : t.size ≤ 4194304) (hn : decide (0 ≤ Lib.indexByte t.data.toList 92) = true) :
    Calls Try.prog 9 #[.string s] w fun e w' => e = .returned (.string ⟨(unesc t.data.toList).toArray⟩) ∧ Below w.heap.size w w' := by
  have HT : Hid (t = s.extract 1 (s.size - 1)) := ht
  clear ht
  have HN : Hid (decide (0 ≤ Lib.indexByte t.data.toList 92) = true) := hn
  clear hn
  go_enter Try.func9, Try.ntmps9
  go_wp2_with fail
  rw [← HT.out]
  refine (Try.strings_Contains_one _ _ _).mono ?_
  rintro e w ⟨rfl, rfl⟩
  rw [HN.out]
  go_wp2_with fail
  refine (Try.Builder_Grow_fresh w.heap.size w.heap.size t.size _ (Nat.le_refl _) (heap_alloc_new w _) (by simp) (by omega)).mono ?_
  rintro e w1 ⟨rfl, hI0, hb0⟩
  have hB0 : Below w.heap.size w w1 := ((Below.refl _ w).alloc (Nat.le_refl _) _).trans hb0
  clear hb0 HT HN h34
  go_wp2
  go_loopw [4] (fun i wr => ∃ (k : Nat) (acc : List UInt8), k ≤ t.size ∧ i = .int .i64 k ∧ Lib.IsBuilder 28 5 w.heap.size w.heap.size (Lib.byteCells acc) wr ∧ Below w.heap.size w wr ∧ Hid (acc ++ unesc (t.data.toList.drop k) = unesc t.data.toList) ∧ acc.length ≤ k) (fun i _ => t.size - (intOf i).toNat)
  case atStart => exact ⟨0, [], Nat.zero_le _, rfl, Or.inr hI0, hB0, rfl, Nat.le_refl _⟩
  case round =>
    obtain ⟨k, acc, hk, rfl, hI, hB, hacc, hal⟩ := hrel
    have hsz : w.heap.size ≤ wr.heap.size := hB.size
    by_cases hlt : k < t.size
    · cases h92 : ((t[k].toNat : Int) == 92)
      · go_wp2_with (go_at_call 12; refine (Try.Builder_WriteByte w.heap.size w.heap.size _ _ _ hI (by rw [Lib.byteCells_length]; omega) hsz).mono ?_)
        rintro e W1 ⟨rfl, h1, b1⟩
        go_wp2
        go_roundw
        case rel => exact ⟨k + 1, acc ++ [t[k]], by omega, by go_num, by rw [cells_snoc]; exact Or.inr h1, hB.trans b1, step_plain t k acc hlt h92 hacc.out, by simp; omega⟩
        case measure => simp [intOf]; omega
      · by_cases hl1 : k + 1 < t.size
        · go_wp2_with (go_at_call 12; refine (Try.Builder_WriteByte w.heap.size w.heap.size _ _ _ hI (by rw [Lib.byteCells_length]; omega) hsz).mono ?_)
          rintro e W1 ⟨rfl, h1, b1⟩
          go_wp2
          go_roundw
          case rel => exact ⟨k + 2, acc ++ [t[k + 1]], by omega, by go_num, by rw [cells_snoc]; exact Or.inr h1, hB.trans b1, step_esc t k acc hl1 h92 hacc.out, by simp; omega⟩
          case measure => simp [intOf]; omega
        · go_wp2_with (go_at_call 12; refine (Try.Builder_WriteByte w.heap.size w.heap.size _ _ _ hI (by rw [Lib.byteCells_length]; omega) hsz).mono ?_)
          rintro e W1 ⟨rfl, h1, b1⟩
          go_wp2
          go_roundw
          case rel => exact ⟨k + 1, acc ++ [t[k]], by omega, by go_num, by rw [cells_snoc]; exact Or.inr h1, hB.trans b1, step_last t k acc (by omega) hacc.out, by simp; omega⟩
          case measure => simp [intOf]; omega
    · have hfin : acc = unesc t.data.toList := by
        have := hacc.out
        rw [List.drop_eq_nil_of_le (by simp; omega)] at this
        simpa [unesc] using this
      have HF : Hid (acc = unesc t.data.toList) := hfin
      clear hfin
      go_wp2_with (go_at_call 13; refine (Try.Builder_String_any w.heap.size w.heap.size acc _ hI hsz).mono ?_)
      rintro e W1 ⟨rfl, b1⟩
      go_wp2
      go_ret
      exact ⟨ret_string (by rw [HF.out]), hB.trans b1⟩

end Go.Proofs.Qxb6602839a.Cnt
