/-
  Seat b6602896a: strings.IndexAny at the text of the three end bytes, for every string.
-/
import Derived.Test.Qxb6602896aWalk11
import Derived.Test.Qxb6602896aDecode
import Derived.Lib.OthersKept
namespace Go.Proofs.Qxb6602896a.Url
open Go.RowKit

/-- A byte beyond ASCII is none of the three. -/
theorem not_end (c : UInt8) (h : 128 ≤ c.toNat) : ([47, 63, 35] : List UInt8).contains c = false := by
  simp only [List.contains_eq_mem, List.mem_cons, List.not_mem_nil, or_false, decide_eq_false_iff_not]
  rintro (e | e | e) <;> (rw [e] at h; simp at h)

theorem noAny_wide (s : ByteArray) (pos : Nat) (h : pos < s.size) (ha : 128 ≤ (s[pos]'h).toNat) (hno : Lib.NoAny s.data.toList [47, 63, 35] pos) : Lib.NoAny s.data.toList [47, 63, 35] (pos + (Utf8.decode s pos).2) := by
  obtain ⟨_, _, _, h4, h5⟩ := decode_wide s pos h ha
  intro j b hj hb
  by_cases hlt : j < pos
  · exact hno j b hlt hb
  · have hjs : j < s.size := by omega
    have e : b = s[j] := by
      rw [get_some _ j (by simpa using hjs), ← get_list s j hjs] at hb
      exact (Option.some.inj hb).symm
    rw [e]
    exact not_end _ (h5 j hjs (by omega) hj)

theorem noAny_one (s : ByteArray) (pos : Nat) (h : pos < s.size) (hc : ([47, 63, 35] : List UInt8).contains s[pos] = false) (hno : Lib.NoAny s.data.toList [47, 63, 35] pos) : Lib.NoAny s.data.toList [47, 63, 35] (pos + 1) :=
  hno.succ (by rw [get_some _ pos (by simpa using h), ← get_list s pos h]) hc

theorem ends_ascii : ∀ (j : Nat) b, ({ data := #[47, 63, 35] } : ByteArray).data.toList[j]? = some b → b.toNat < 128 := by
  intro j b h
  have hm : b ∈ ([47, 63, 35] : List UInt8) := List.mem_of_getElem? h
  simp only [List.mem_cons, List.not_mem_nil, or_false] at hm
  rcases hm with e | e | e <;> (rw [e]; decide)

set_option maxHeartbeats 4000000 in
set_option maxRecDepth 1000000 in
theorem indexAny_short (s : ByteArray) (w : World) (h8 : s.size ≤ 8) :
    Calls Try.prog 39 #[.string s, .string { data := #[47, 63, 35] }] w fun e w' => e = .returned (.int .i64 (Lib.indexAny s.data.toList [47, 63, 35])) ∧ Below w.heap.size w w' := by
  have h8z : decide ((8 : Int) < (s.size : Int)) = false := decide_eq_false (by omega)
  have H8 : Hid (decide ((8 : Int) < (s.size : Int)) = false) := h8z
  clear h8z
  obtain ⟨R, hR⟩ : ∃ R, R = Lib.indexAny s.data.toList [47, 63, 35] := ⟨_, rfl⟩
  rw [← hR]
  have HR : Hid (R = Lib.indexAny s.data.toList [47, 63, 35]) := hR
  clear hR
  go_enter Try.func39, Try.ntmps39
  go_wp2_with (go_at_call 47; refine (Try.strings_shouldUseASCIISet _ _).mono ?_; rintro e w ⟨rfl, rfl⟩; rw [H8.out])
  go_loopw [9, 10] (fun _ _ wr => ∃ pos : Nat, wr.heap[w.heap.size]? = some (.stringIter s pos) ∧ Below w.heap.size w wr ∧ Hid (Lib.NoAny s.data.toList [47, 63, 35] pos) ∧ pos ≤ s.size) (fun _ _ wr => s.size - wr.iterPos w.heap.size)
  case atStart => exact ⟨0, World.iter_heap w s 0, (Below.refl _ w).alloc (Nat.le_refl _) _, Lib.NoAny.zero _ _, Nat.zero_le _⟩
  case round =>
    obtain ⟨pos, hit, hbw, hno, hps⟩ := hrel
    have hsz : w.heap.size < wr.heap.size := (Array.getElem?_eq_some_iff.1 hit).1
    by_cases hp : pos < s.size
    · by_cases ha : (s[pos]'hp).toNat < 128
      · have hnx := fun ty => Lib.run_next_ascii_at (P := Try.prog) wr w.heap.size s pos ty hit hp ha
        have hit2 := Lib.iterAt_heap wr w.heap.size s pos (pos + 1) hit
        have hbw2 := Lib.below_iterAt hbw (k := w.heap.size) (Nat.le_refl _) s (pos + 1)
        have H46 : Hid (∀ w : World, Calls Try.prog 46 #[.string { data := #[47, 63, 35] }, .int .i32 ((s[pos]'hp).toNat : Int)] w fun e w' => e = .returned (.int .i64 (Lib.indexByte [47, 63, 35] s[pos])) ∧ w' = w) := by
          intro w
          have hback : (((s[pos]'hp).toNat : Int)).toNat.toUInt8 = s[pos] := by simp
          have := Try.strings_IndexRune_ascii { data := #[47, 63, 35] } ((s[pos]'hp).toNat : Int) w (by omega) (by omega)
          rw [hback] at this
          exact this
        have hcon := Lib.contains_iff_indexByte [47, 63, 35] s[pos]
        cases hin : ([47, 63, 35] : List UInt8).contains s[pos]
        · rw [hin] at hcon
          have hlt : ¬ ((0 : Int) ≤ Lib.indexByte [47, 63, 35] s[pos]) := of_decide_eq_false hcon.symm
          have HNo : Hid (Lib.NoAny s.data.toList [47, 63, 35] (pos + 1)) := noAny_one s pos hp hin hno.out
          clear hcon hin
          go_wp2_with fail
          refine (H46.out _).mono ?_
          rintro e w2 ⟨rfl, hw2⟩
          subst hw2
          go_wp2
          go_roundw
          case rel => exact ⟨pos + 1, hit2, hbw2, HNo, by omega⟩
          case measure => simp only [iterPos_of hit2, iterPos_of hit]; omega
        · rw [hin] at hcon
          have hge : (0 : Int) ≤ Lib.indexByte [47, 63, 35] s[pos] := of_decide_eq_true hcon.symm
          have HF : Hid ((pos : Int) = R) := by
            show _ = _
            rw [HR.out, Lib.indexAny_hit hno.out (by rw [get_some _ pos (by simpa using hp), ← get_list s pos hp]) hin]
          clear hcon hin
          go_wp2_with fail
          refine (H46.out _).mono ?_
          rintro e w2 ⟨rfl, hw2⟩
          subst hw2
          go_wp2
          go_ret
          exact ⟨ret_int HF.out, hbw2⟩
      · have hnx := fun ty => Lib.run_next_any_at (P := Try.prog) wr w.heap.size s pos ty hit hp
        obtain ⟨d1, d2, d3, d4, _⟩ := decode_wide s pos hp (by omega)
        have HNo : Hid (Lib.NoAny s.data.toList [47, 63, 35] (pos + (Utf8.decode s pos).2)) := noAny_wide s pos hp (by omega) hno.out
        have H46 : Hid (∀ w : World, Calls Try.prog 46 #[.string { data := #[47, 63, 35] }, .int .i32 ((Utf8.decode s pos).1 : Int)] w fun e w' => e = .returned (.int .i64 (-1)) ∧ Below w.heap.size w w') := by
          intro w
          cases hne : (((Utf8.decode s pos).1 : Int) == 65533)
          · exact indexRune_wide _ w (by omega) d2 hne
          · have e : ((Utf8.decode s pos).1 : Int) = 65533 := by simpa using hne
            rw [e]
            exact indexRune_error w
        generalize Utf8.decode s pos = d at *
        have hit2 := Lib.iterAt_heap wr w.heap.size s pos (pos + d.2) hit
        have hbw2 := Lib.below_iterAt hbw (k := w.heap.size) (Nat.le_refl _) s (pos + d.2)
        have hsz2 : w.heap.size < (wr.iterAt w.heap.size s (pos + d.2)).heap.size := by rw [Lib.iterAt_size]; exact hsz
        clear d2
        go_wp2_with fail
        refine (H46.out _).mono ?_
        rintro e w2 ⟨rfl, hb2⟩
        have hit3 : w2.heap[w.heap.size]? = some (.stringIter s (pos + d.2)) := (hb2.block w.heap.size hsz2).trans hit2
        have hbw3 : Below w.heap.size w w2 := hbw2.trans (hb2.mono (by omega))
        go_wp2
        go_roundw
        case rel => exact ⟨pos + d.2, hit3, hbw3, HNo, d4⟩
        case measure => simp only [iterPos_of hit3, iterPos_of hit]; omega
    · have hnx := fun ty => Lib.run_next_end_at (P := Try.prog) wr w.heap.size s pos ty hit hp
      have HF : Hid ((-1 : Int) = R) := by
        show _ = _
        have e : pos = s.data.toList.length := by rw [len_list]; omega
        have := hno.out
        rw [e] at this
        rw [HR.out, Lib.indexAny_none this]
      go_wp2
      go_ret
      exact ⟨ret_int HF.out, hbw⟩

/-- strings.IndexAny at the three end bytes, for every string of the law's length. -/
theorem indexAny_all (s : ByteArray) (w : World) (hs : s.size ≤ 1048576) :
    Calls Try.prog 39 #[.string s, .string { data := #[47, 63, 35] }] w fun e w' => e = .returned (.int .i64 (Lib.indexAny s.data.toList [47, 63, 35])) ∧ Below w.heap.size w w' := by
  by_cases h8 : s.size ≤ 8
  · exact indexAny_short s w h8
  · refine (Try.strings_IndexAny_long s { data := #[47, 63, 35] } w (by decide) (by omega) (by omega) (by decide) ends_ascii).mono ?_
    rintro e w' ⟨rfl, rfl⟩
    exact ⟨rfl, ((Below.refl _ w).alloc (Nat.le_refl _) _).alloc (by simp) _⟩

end Go.Proofs.Qxb6602896a.Url
