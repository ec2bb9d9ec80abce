/-
  Seat b6602896a: the walk of isURL.
-/
import Derived.Test.Qxb6602896aWalk12
import Derived.Test.Qxb6602896aWalk3
namespace Go.Proofs.Qxb6602896a.Url
open Go.RowKit

theorem isEnd_contains (c : UInt8) : ([47, 63, 35] : List UInt8).contains c = isEnd c := by
  unfold isEnd
  simp only [List.contains_cons, List.contains_nil, Bool.or_false, Bool.or_assoc]

theorem any_end : ∀ l : List UInt8, (Lib.indexAny l [47, 63, 35] = -1 ∧ authEnd l = l.length) ∨ (Lib.indexAny l [47, 63, 35] = (authEnd l : Int) ∧ authEnd l < l.length)
  | [] => .inl ⟨rfl, rfl⟩
  | c :: l => by
    have ih := any_end l
    rw [Lib.indexAny, authEnd, isEnd_contains]
    cases isEnd c
    · simp only [Bool.false_eq_true, if_false]
      rcases ih with ⟨h1, h2⟩ | ⟨h1, h2⟩
      · left
        rw [h1, h2]
        exact ⟨rfl, rfl⟩
      · right
        have : (Lib.indexAny l [47, 63, 35] == -1) = false := by rw [h1]; simp
        rw [this, h1]
        simp; omega
    · right
      simp

theorem headD_get (l : List UInt8) (h : 0 < l.length) : l.headD 0 = l[0] := by
  cases l with
  | nil => simp at h
  | cons a l => rfl

def urlTail (hs : Bool) (T : List UInt8) : Bool :=
  isAuth (T.take (authEnd T)) && (if hs then decide (0 < authEnd T) && pathQ (T.drop (authEnd T)) else decide (authEnd T = T.length))

theorem take_extract (t : ByteArray) (n : Nat) : (t.extract 0 n).data.toList = t.data.toList.take n := by
  rw [ByteArray.data_extract, Array.toList_extract]
  simp [List.extract]

theorem cut_parts (s : ByteArray) : ∃ t hs, cutVal s (schemeAt s.data.toList) = .tuple #[.string t, .bool hs] ∧ t.size ≤ s.size ∧
    (match schemeAt s.data.toList with | some k => isAuth ((s.data.toList.drop (k + 3)).take (authEnd (s.data.toList.drop (k + 3)))) && decide (0 < authEnd (s.data.toList.drop (k + 3))) && pathQ ((s.data.toList.drop (k + 3)).drop (authEnd (s.data.toList.drop (k + 3)))) | none => isAuth (s.data.toList.take (authEnd s.data.toList)) && decide (authEnd s.data.toList = s.data.toList.length)) = urlTail hs t.data.toList := by
  cases h : schemeAt s.data.toList with
  | none => exact ⟨s, false, rfl, Nat.le_refl _, rfl⟩
  | some k =>
    refine ⟨s.extract (k + 3) s.size, true, rfl, by rw [ByteArray.size_extract]; omega, ?_⟩
    rw [drop_extract]
    unfold urlTail
    rw [if_pos rfl]
    exact Bool.and_assoc _ _ _

set_option maxHeartbeats 2000000 in
theorem isURL_any (s : ByteArray) (w : World) (hs : s.size ≤ 1048576) :
    Calls Try.prog 30 #[.string s] w fun e w' => e = .returned (.bool (isUrl s.data.toList)) ∧ Below w.heap.size w w' := by
  have hl := len_list s
  by_cases h0 : s.size = 0
  · have hnil : s.data.toList = [] := List.length_eq_zero_iff.1 (by omega)
    have hemp : s.toList.isEmpty = true := by rw [Lib.toList_data, hnil]; rfl
    have HU : Hid (isUrl s.data.toList = false) := by show _ = _; rw [hnil]; rfl
    clear hl h0 hnil
    go_enter Try.func30, Try.ntmps30
    go_wp2
    go_ret
    exact ⟨ret_bool HU.out.symm, Below.refl _ _⟩
  · have hne : s.data.toList ≠ [] := by intro e; rw [e] at hl; simp at hl; omega
    have hemp : s.toList.isEmpty = false := by
      rw [Lib.toList_data]
      cases h : s.data.toList with
      | nil => exact absurd h hne
      | cons _ _ => rfl
    have hpos : 0 < s.size := by omega
    have hhead : s.data.toList.headD 0 = s[0] := by
      rw [get_list]
      exact headD_get _ _
    cases h47 : ((s[0].toNat : Int) == 47)
    · obtain ⟨t, f, hcv, hts, hur⟩ := cut_parts s
      have hn47 : ¬ s.data.toList.headD 0 = 47 := by rw [hhead]; exact byte_ne s[0] 47 (by decide) h47
      have HU : Hid (isUrl s.data.toList = urlTail f t.data.toList) := by
        show _ = _
        unfold isUrl
        rw [if_neg hne, if_neg hn47]
        exact hur
      have h38 : Hid (∀ w : World, Calls Try.prog 38 #[.string s] w fun e w' => e = .returned (.tuple #[.string t, .bool f]) ∧ w' = w) := by
        intro w
        have := cutScheme_any s w hs
        rw [hcv] at this
        exact this
      have ht : t.size ≤ 1048576 := by omega
      clear hl h0 hne hhead hn47 hcv hur
      have hae := authEnd_le t.data.toList
      rw [len_list] at hae
      obtain ⟨E, hE⟩ : ∃ E, E = authEnd t.data.toList := ⟨_, rfl⟩
      rw [← hE] at hae
      have hA : Hid (∀ w : World, Calls Try.prog 29 #[.string (t.extract 0 E)] w fun e w' => e = .returned (.bool (isAuth (t.data.toList.take E))) ∧ w' = w) := by
        intro w
        have := isAuthority_any (t.extract 0 E) w (extract_le t 0 E ht)
        rw [take_extract] at this
        exact this
      have hP : Hid (∀ w : World, Calls Try.prog 37 #[.string (t.extract E t.size)] w fun e w' => e = .returned (.bool (pathQ (t.data.toList.drop E))) ∧ Below w.heap.size w w') := by
        intro w
        have := isPathAndQuery_any (t.extract E t.size) w (extract_le t E t.size ht)
        rw [drop_extract] at this
        exact this
      have HT : Hid (isUrl s.data.toList = (isAuth (t.data.toList.take E) && (if f then decide (0 < E) && pathQ (t.data.toList.drop E) else decide (E = t.size)))) := by
        show _ = _
        rw [HU.out, hE]
        unfold urlTail
        rw [len_list]
      have HX := any_end t.data.toList
      rw [← hE, len_list] at HX
      clear HU hE
      go_enter Try.func30, Try.ntmps30
      go_wp2_with fail
      refine (h38.out _).mono ?_
      rintro e w ⟨rfl, rfl⟩
      go_wp2_with fail
      refine (indexAny_all t _ ht).mono ?_
      rintro e w1 ⟨rfl, hB1⟩
      rcases HX with ⟨hx1, hx2⟩ | ⟨hx1, hx2⟩
      · rw [hx1]
        clear hx1
        subst hx2
        have hA1 : Hid (∀ w : World, Calls Try.prog 29 #[.string t] w fun e w' => e = .returned (.bool (isAuth (t.data.toList.take t.size))) ∧ w' = w) := by
          intro w
          have := isAuthority_any t w ht
          rw [List.take_of_length_le (by rw [len_list]; exact Nat.le_refl _)]
          exact this
        have hP1 : Hid (∀ w : World, Calls Try.prog 37 #[.string ByteArray.empty] w fun e w' => e = .returned (.bool (pathQ (t.data.toList.drop t.size))) ∧ Below w.heap.size w w') := by
          intro w
          have := isPathAndQuery_any ByteArray.empty w (by decide)
          rw [List.drop_eq_nil_of_le (by rw [len_list]; exact Nat.le_refl _)]
          exact this
        clear hA hP
        go_wp2_with fail
        refine (hA1.out _).mono ?_
        rintro e w2 ⟨rfl, hw2⟩
        subst hw2
        cases hau : isAuth (t.data.toList.take t.size)
        · have HF : Hid (isUrl s.data.toList = false) := by
            show _ = _
            rw [HT.out, hau]; simp
          clear hau
          go_wp2
          go_ret
          exact ⟨ret_bool HF.out.symm, hB1⟩
        · cases f
          · have HF : Hid (isUrl s.data.toList = decide (t.size = t.size)) := by
              show _ = _
              rw [HT.out, hau]; simp
            clear hau
            go_wp2
            go_ret
            exact ⟨ret_bool (by rw [HF.out, Bool.eq_iff_iff]; simp; try omega), hB1⟩
          · have HF : Hid (isUrl s.data.toList = (decide (0 < t.size) && pathQ (t.data.toList.drop t.size))) := by
              show _ = _
              rw [HT.out, hau]; simp
            clear hau
            by_cases h0E : 0 < t.size
            · go_wp2_with fail
              refine (hP1.out _).mono ?_
              rintro e w3 ⟨rfl, hB3⟩
              go_wp2
              go_ret
              exact ⟨ret_bool (by rw [HF.out]; simp [h0E]), hB1.trans (hB3.mono hB1.size)⟩
            · go_wp2
              go_ret
              exact ⟨ret_bool (by rw [HF.out]; simp [h0E]), hB1⟩
      · rw [hx1]
        clear hx1
        go_wp2_with fail
        refine (hA.out _).mono ?_
        rintro e w2 ⟨rfl, hw2⟩
        subst hw2
        cases hau : isAuth (t.data.toList.take E)
        · have HF : Hid (isUrl s.data.toList = false) := by
            show _ = _
            rw [HT.out, hau]; simp
          clear hau
          go_wp2
          go_ret
          exact ⟨ret_bool HF.out.symm, hB1⟩
        · cases f
          · have HF : Hid (isUrl s.data.toList = decide (E = t.size)) := by
              show _ = _
              rw [HT.out, hau]; simp
            clear hau
            go_wp2
            go_ret
            exact ⟨ret_bool (by rw [HF.out, Bool.eq_iff_iff]; simp; try omega), hB1⟩
          · have HF : Hid (isUrl s.data.toList = (decide (0 < E) && pathQ (t.data.toList.drop E))) := by
              show _ = _
              rw [HT.out, hau]; simp
            clear hau
            by_cases h0E : 0 < E
            · go_wp2_with fail
              refine (hP.out _).mono ?_
              rintro e w3 ⟨rfl, hB3⟩
              go_wp2
              go_ret
              exact ⟨ret_bool (by rw [HF.out]; simp [h0E]), hB1.trans (hB3.mono hB1.size)⟩
            · go_wp2
              go_ret
              exact ⟨ret_bool (by rw [HF.out]; simp [h0E]), hB1⟩
    · have HU : Hid (isUrl s.data.toList = pathQ s.data.toList) := by
        show _ = _
        unfold isUrl
        rw [if_neg hne, if_pos (by rw [hhead]; exact byte_eq s[0] 47 (by decide) h47)]
      clear hl h0 hne hhead
      go_enter Try.func30, Try.ntmps30
      go_wp2_with fail
      refine (isPathAndQuery_any s _ hs).mono ?_
      rintro e w1 ⟨rfl, hB1⟩
      go_wp2
      go_ret
      exact ⟨ret_bool HU.out.symm, hB1⟩

end Go.Proofs.Qxb6602896a.Url
