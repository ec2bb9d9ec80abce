/-
  Seat b6602896a: the walks of the law's own three forms of a url.
-/
import Derived.Test.Qxb6602896aWalk4
import Derived.Test.Qxb6602896aWalk13
namespace Go.Proofs.Qxb6602896a.Url
open Go.RowKit

theorem list_ne (s : ByteArray) (h : 0 < s.size) : s.data.toList ≠ [] := by
  intro e
  have := len_list s
  rw [e] at this
  simp at this
  omega

theorem list_nil (s : ByteArray) (h : ¬ 0 < s.size) : s.data.toList = [] := List.length_eq_zero_iff.1 (by rw [len_list]; omega)

theorem head_get (s : ByteArray) (h : 0 < s.size) : s.data.toList.headD 0 = s[0] := by
  rw [get_list]
  exact headD_get _ _

/-! ### zzPathForm -/

set_option maxHeartbeats 1000000 in
theorem pathForm_any (s : ByteArray) (w : World) (hs : s.size ≤ 1048576) :
    Calls Try.prog 31 #[.string s] w fun e w' => e = .returned (.bool (pathForm s.data.toList)) ∧ w' = w := by
  by_cases h0 : 0 < s.size
  · cases h47 : ((s[0].toNat : Int) == 47)
    · have HF : Hid (pathForm s.data.toList = false) := by
        show _ = _
        unfold pathForm
        rw [head_get s h0]
        have : ¬ s[0] = 47 := byte_ne s[0] 47 (by decide) h47
        simp [this]
      go_enter Try.func31, Try.ntmps31
      go_wp2
      go_ret
      exact ⟨ret_bool HF.out.symm, rfl⟩
    · have HF : Hid (pathForm s.data.toList = pq false s.data.toList) := by
        show _ = _
        unfold pathForm
        rw [head_get s h0]
        have : s[0] = 47 := byte_eq s[0] 47 (by decide) h47
        have hne := list_ne s h0
        simp [this, hne]
      go_enter Try.func31, Try.ntmps31
      go_wp2_with (go_at_call 40; refine (pathAndQuery_any _ _ hs).mono ?_; rintro e w ⟨rfl, rfl⟩)
      go_ret
      exact ⟨ret_bool HF.out.symm, rfl⟩
  · have HF : Hid (pathForm s.data.toList = false) := by
      show _ = _
      rw [list_nil s h0]; rfl
    go_enter Try.func31, Try.ntmps31
    go_wp2
    go_ret
    exact ⟨ret_bool HF.out.symm, rfl⟩

/-! ### zzBareForm -/

set_option maxHeartbeats 1000000 in
theorem bareForm_any (s : ByteArray) (w : World) (hs : s.size ≤ 1048576) :
    Calls Try.prog 33 #[.string s] w fun e w' => e = .returned (.bool (bareForm s.data.toList)) ∧ w' = w := by
  by_cases h0 : 0 < s.size
  · obtain ⟨E, hE⟩ : ∃ E, E = authEnd s.data.toList := ⟨_, rfl⟩
    have H24 : Hid (∀ w : World, Calls Try.prog 24 #[.string s] w fun e w' => e = .returned (.int .i64 (E : Int)) ∧ w' = w) := by
      intro w
      rw [hE]
      exact authorityEnd_any s w hs
    have hne := list_ne s h0
    by_cases he : E = s.size
    · have heb : ((E : Int) == (s.size : Int)) = true := by rw [beq_iff_eq]; omega
      have HF : Hid (bareForm s.data.toList = authModel s.data.toList) := by
        show _ = _
        unfold bareForm
        rw [← hE, he, len_list]
        simp [hne]
      clear hE he hne
      go_enter Try.func33, Try.ntmps33
      go_wp2_with (first | (go_at_call 24; refine (H24.out _).mono ?_; rintro e w ⟨rfl, rfl⟩) | (go_at_call 16; refine (authorityModel_any _ _ hs).mono ?_; rintro e w ⟨rfl, rfl⟩))
      go_ret
      exact ⟨ret_bool HF.out.symm, rfl⟩
    · have heb : ((E : Int) == (s.size : Int)) = false := beq_eq_false_iff_ne.2 (by omega)
      have HF : Hid (bareForm s.data.toList = false) := by
        show _ = _
        unfold bareForm
        rw [← hE, len_list]
        simp [he]
      clear hE he hne
      go_enter Try.func33, Try.ntmps33
      go_wp2_with (go_at_call 24; refine (H24.out _).mono ?_; rintro e w ⟨rfl, rfl⟩)
      go_ret
      exact ⟨ret_bool HF.out.symm, rfl⟩
  · have HF : Hid (bareForm s.data.toList = false) := by
      show _ = _
      rw [list_nil s h0]; rfl
    go_enter Try.func33, Try.ntmps33
    go_wp2
    go_ret
    exact ⟨ret_bool HF.out.symm, rfl⟩

/-! ### zzSchemeForm -/

theorem two_after (s : ByteArray) (k : Nat) (h : k + 3 ≤ s.size) : (s.data.toList.drop (k + 1)).take 2 = [s[k + 1], s[k + 2]] := by
  rw [drop_cons s (k + 1) (by omega), drop_cons s (k + 1 + 1) (by omega)]
  rfl

theorem sok_room (s : ByteArray) (k : Nat) (h : ¬ k + 3 ≤ s.size) : schemeOk s.data.toList k = false := by
  unfold schemeOk
  have : ¬ (s.data.toList.drop (k + 1)).take 2 = [47, 47] := by
    intro e
    have := congrArg List.length e
    simp at this
    omega
  simp only [this, decide_false, Bool.false_and]

theorem sok_first (s : ByteArray) (k : Nat) (h : k + 3 ≤ s.size) (e : ((s[k + 1].toNat : Int) != 47) = true) : schemeOk s.data.toList k = false := by
  unfold schemeOk
  rw [two_after s k h]
  have : ¬ s[k + 1] = 47 := by intro e'; rw [e'] at e; simp at e
  simp [this]

theorem sok_second (s : ByteArray) (k : Nat) (h : k + 3 ≤ s.size) (e : ((s[k + 2].toNat : Int) != 47) = true) : schemeOk s.data.toList k = false := by
  unfold schemeOk
  rw [two_after s k h]
  have : ¬ s[k + 2] = 47 := by intro e'; rw [e'] at e; simp at e
  simp [this]

theorem sok_both (s : ByteArray) (k : Nat) (h : k + 3 ≤ s.size) (e1 : ((s[k + 1].toNat : Int) != 47) = false) (e2 : ((s[k + 2].toNat : Int) != 47) = false) : schemeOk s.data.toList k = (s.data.toList.take k).all schemeB := by
  unfold schemeOk
  rw [two_after s k h]
  have a : s[k + 1] = 47 := by apply UInt8.toNat_inj.1; simp at e1; simp; omega
  have b : s[k + 2] = 47 := by apply UInt8.toNat_inj.1; simp at e2; simp; omega
  simp [a, b]

theorem all_bad (s : ByteArray) (k j : Nat) (hj : j < k) (h : j < s.size) (e : schemeB s[j] = false) : (s.data.toList.take k).all schemeB = false := by
  rw [List.all_eq_false]
  refine ⟨s[j], ?_, by simp [e]⟩
  apply List.mem_of_getElem? (i := j)
  rw [List.getElem?_take, if_pos hj, get_some _ j (by simpa using h), ← get_list s j h]

theorem form_none (l : List UInt8) (h : firstAt 58 l = none) : schemeForm l = false := by
  unfold schemeForm; rw [h]
theorem form_bad (l : List UInt8) (k : Nat) (h : firstAt 58 l = some k) (e : schemeOk l k = false) : schemeForm l = false := by
  unfold schemeForm; rw [h]; simp [e]
theorem form_ok (l : List UInt8) (k : Nat) (h : firstAt 58 l = some k) (e : schemeOk l k = true) :
    schemeForm l = (decide (0 < authEnd (l.drop (k + 3))) && authModel ((l.drop (k + 3)).take (authEnd (l.drop (k + 3)))) && pq false ((l.drop (k + 3)).drop (authEnd (l.drop (k + 3))))) := by
  unfold schemeForm; rw [h]; simp [e]

set_option maxHeartbeats 4000000 in
theorem schemeForm_any (s : ByteArray) (w : World) (hs : s.size ≤ 1048576) :
    Calls Try.prog 32 #[.string s] w fun e w' => e = .returned (.bool (schemeForm s.data.toList)) ∧ w' = w := by
  obtain ⟨R, hR⟩ : ∃ R, R = schemeForm s.data.toList := ⟨_, rfl⟩
  rw [← hR]
  cases hf : firstAt 58 s.data.toList with
  | none =>
    have HF : Hid (R = false) := by show _ = _; rw [hR, form_none _ hf]
    have H26 : Hid (∀ w : World, Calls Try.prog 26 #[.string s, .int .i64 0, .int .u8 58] w fun e w' => e = .returned (.int .i64 (-1)) ∧ w' = w) := by
      intro w
      have := indexFrom_any s w hs
      rw [hf] at this
      exact this
    clear hf hR
    go_enter Try.func32, Try.ntmps32
    go_wp2_with (go_at_call 26; refine (H26.out _).mono ?_; rintro e w ⟨rfl, rfl⟩)
    go_ret
    exact ⟨ret_bool HF.out.symm, rfl⟩
  | some k =>
    have H26 : Hid (∀ w : World, Calls Try.prog 26 #[.string s, .int .i64 0, .int .u8 58] w fun e w' => e = .returned (.int .i64 (k : Int)) ∧ w' = w) := by
      intro w
      have := indexFrom_any s w hs
      rw [hf] at this
      exact this
    have hks : k < s.size := by
      have := (firstAt_spec 58 _ k hf).1
      have := (List.getElem?_eq_some_iff.1 this).1
      simpa using this
    have HFF : Hid (firstAt 58 s.data.toList = some k) := hf
    have HRR : Hid (R = schemeForm s.data.toList) := hR
    clear hf hR
    by_cases hroom : k + 3 ≤ s.size
    · cases e1 : ((s[k + 1].toNat : Int) != 47)
      · cases e2 : ((s[k + 2].toNat : Int) != 47)
        · have HSO : Hid (schemeOk s.data.toList k = (s.data.toList.take k).all schemeB) := sok_both s k hroom e1 e2
          go_enter Try.func32, Try.ntmps32
          go_wp2_with (go_at_call 26; refine (H26.out _).mono ?_; rintro e w ⟨rfl, rfl⟩)
          go_loop [4] (fun i => ∃ j : Nat, j ≤ k ∧ i = .int .i64 j ∧ Hid ((s.data.toList.take j).all schemeB = true)) (fun i => k - (intOf i).toNat)
          case atStart => exact ⟨0, Nat.zero_le _, rfl, rfl⟩
          case round =>
            obtain ⟨j, hj, rfl, hall⟩ := hrel
            by_cases hlt : j < k
            · have hjs : j < s.size := by omega
              cases hb : schemeB s[j]
              · have HF : Hid (R = false) := by
                  show _ = _
                  rw [HRR.out, form_bad _ k HFF.out (by rw [HSO.out]; exact all_bad s k j hlt hjs hb)]
                have HB : Hid (schemeB s[j] = false) := hb
                clear hb
                go_wp2_with (go_at_call 41; refine (schemeByte_any _ _).mono ?_; rintro e w ⟨rfl, rfl⟩; rw [HB.out])
                go_ret
                exact ⟨ret_bool HF.out.symm, rfl⟩
              · have HN : Hid ((s.data.toList.take (j + 1)).all schemeB = true) := by
                  show _ = _
                  rw [take_snoc s j hjs, List.all_append, hall.out]
                  simp [hb]
                have HB : Hid (schemeB s[j] = true) := hb
                clear hb
                go_wp2_with (go_at_call 41; refine (schemeByte_any _ _).mono ?_; rintro e w ⟨rfl, rfl⟩; rw [HB.out])
                go_round
                case rel => exact ⟨j + 1, by omega, by go_num, HN⟩
                case measure => simp [intOf]; omega
            · have hdr := drop_extract s (k + 3)
              have HX : Hid (R = (decide (0 < authEnd (s.extract (k + 3) s.size).data.toList) && authModel ((s.extract (k + 3) s.size).data.toList.take (authEnd (s.extract (k + 3) s.size).data.toList)) && pq false ((s.extract (k + 3) s.size).data.toList.drop (authEnd (s.extract (k + 3) s.size).data.toList)))) := by
                show _ = _
                have hjk : j = k := by omega
                have := hall.out
                rw [hjk] at this
                rw [HRR.out, form_ok _ k HFF.out (by rw [HSO.out]; exact this), hdr]
              have htz : (s.extract (k + 3) s.size).size ≤ 1048576 := extract_le s _ _ hs
              clear hdr HRR HSO hall
              go_wp2_with fail
              generalize s.extract (k + 3) s.size = t at *
              have hae := authEnd_le t.data.toList
              rw [len_list] at hae
              refine (authorityEnd_any t _ htz).mono ?_
              rintro e w ⟨rfl, rfl⟩
              generalize authEnd t.data.toList = E at *
              by_cases hE : 0 < E
              · have H16 : Hid (∀ w : World, Calls Try.prog 16 #[.string (t.extract 0 E)] w fun e w' => e = .returned (.bool (authModel (t.data.toList.take E))) ∧ w' = w) := by
                  intro w
                  have := authorityModel_any (t.extract 0 E) w (extract_le t 0 E htz)
                  rw [take_extract] at this
                  exact this
                have H40 : Hid (∀ w : World, Calls Try.prog 40 #[.string (t.extract E t.size)] w fun e w' => e = .returned (.bool (pq false (t.data.toList.drop E))) ∧ w' = w) := by
                  intro w
                  have := pathAndQuery_any (t.extract E t.size) w (extract_le t E t.size htz)
                  rw [drop_extract] at this
                  exact this
                go_wp2_with fail
                refine (H16.out _).mono ?_
                rintro e w ⟨rfl, rfl⟩
                cases hau : authModel (t.data.toList.take E)
                · have HF : Hid (R = false) := by show _ = _; rw [HX.out, hau]; simp
                  clear hau
                  go_wp2
                  go_ret
                  exact ⟨ret_bool HF.out.symm, rfl⟩
                · have HF : Hid (R = pq false (t.data.toList.drop E)) := by show _ = _; rw [HX.out, hau]; simp [hE]
                  clear hau
                  go_wp2_with fail
                  refine (H40.out _).mono ?_
                  rintro e w ⟨rfl, rfl⟩
                  go_wp2
                  go_ret
                  exact ⟨ret_bool HF.out.symm, rfl⟩
              · have HF : Hid (R = false) := by show _ = _; rw [HX.out]; simp [hE]
                go_wp2
                go_ret
                exact ⟨ret_bool HF.out.symm, rfl⟩
        · have HF : Hid (R = false) := by show _ = _; rw [HRR.out, form_bad _ k HFF.out (sok_second s k hroom e2)]
          go_enter Try.func32, Try.ntmps32
          go_wp2_with (go_at_call 26; refine (H26.out _).mono ?_; rintro e w ⟨rfl, rfl⟩)
          go_ret
          exact ⟨ret_bool HF.out.symm, rfl⟩
      · have HF : Hid (R = false) := by show _ = _; rw [HRR.out, form_bad _ k HFF.out (sok_first s k hroom e1)]
        go_enter Try.func32, Try.ntmps32
        go_wp2_with (go_at_call 26; refine (H26.out _).mono ?_; rintro e w ⟨rfl, rfl⟩)
        go_ret
        exact ⟨ret_bool HF.out.symm, rfl⟩
    · have HF : Hid (R = false) := by show _ = _; rw [HRR.out, form_bad _ k HFF.out (sok_room s k hroom)]
      go_enter Try.func32, Try.ntmps32
      go_wp2_with (go_at_call 26; refine (H26.out _).mono ?_; rintro e w ⟨rfl, rfl⟩)
      go_ret
      exact ⟨ret_bool HF.out.symm, rfl⟩

/-! ### zzURLModel -/

set_option maxHeartbeats 1000000 in
theorem urlModel_any (s : ByteArray) (w : World) (hs : s.size ≤ 1048576) :
    Calls Try.prog 22 #[.string s] w fun e w' => e = .returned (.bool (urlModel s.data.toList)) ∧ w' = w := by
  have H31 : Hid (∀ w : World, Calls Try.prog 31 #[.string s] w fun e w' => e = .returned (.bool (pathForm s.data.toList)) ∧ w' = w) := fun w => pathForm_any s w hs
  have H32 : Hid (∀ w : World, Calls Try.prog 32 #[.string s] w fun e w' => e = .returned (.bool (schemeForm s.data.toList)) ∧ w' = w) := fun w => schemeForm_any s w hs
  have H33 : Hid (∀ w : World, Calls Try.prog 33 #[.string s] w fun e w' => e = .returned (.bool (bareForm s.data.toList)) ∧ w' = w) := fun w => bareForm_any s w hs
  have HU : Hid (urlModel s.data.toList = (pathForm s.data.toList || schemeForm s.data.toList || bareForm s.data.toList)) := rfl
  generalize pathForm s.data.toList = a at *
  generalize schemeForm s.data.toList = b at *
  generalize bareForm s.data.toList = c at *
  cases a
  · cases b
    · go_enter Try.func22, Try.ntmps22
      go_wp2_with (first | (go_at_call 31; refine (H31.out _).mono ?_; rintro e w ⟨rfl, rfl⟩) | (go_at_call 32; refine (H32.out _).mono ?_; rintro e w ⟨rfl, rfl⟩) | (go_at_call 33; refine (H33.out _).mono ?_; rintro e w ⟨rfl, rfl⟩))
      go_ret
      exact ⟨ret_bool (by rw [HU.out]; rfl), rfl⟩
    · go_enter Try.func22, Try.ntmps22
      go_wp2_with (first | (go_at_call 31; refine (H31.out _).mono ?_; rintro e w ⟨rfl, rfl⟩) | (go_at_call 32; refine (H32.out _).mono ?_; rintro e w ⟨rfl, rfl⟩))
      go_ret
      exact ⟨ret_bool (by rw [HU.out]; rfl), rfl⟩
  · go_enter Try.func22, Try.ntmps22
    go_wp2_with (go_at_call 31; refine (H31.out _).mono ?_; rintro e w ⟨rfl, rfl⟩)
    go_ret
    exact ⟨ret_bool (by rw [HU.out]; rfl), rfl⟩

set_option maxHeartbeats 400000 in
theorem zzIsURL_any (s : ByteArray) (w : World) (hs : s.size ≤ 1048576) :
    Calls Try.prog 21 #[.string s] w fun e w' => e = .returned (.bool (isUrl s.data.toList)) ∧ Below w.heap.size w w' := by
  go_enter Try.func21, Try.ntmps21
  go_wp2_with fail
  refine (isURL_any s _ hs).mono ?_
  rintro e w1 ⟨rfl, hb⟩
  go_wp2
  go_ret
  exact ⟨rfl, hb⟩

end Go.Proofs.Qxb6602896a.Url
