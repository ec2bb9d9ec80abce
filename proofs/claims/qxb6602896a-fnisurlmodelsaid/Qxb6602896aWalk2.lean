/-
  Seat b6602896a: the walk of isAuthority.
-/
import Derived.Test.Qxb6602896aWalk1
namespace Go.Proofs.Qxb6602896a.Url
open Go.RowKit

/-! ### One step of the scan, at place k of a string -/

theorem scan_at (s : ByteArray) (k : Nat) (h : k < s.size) (br co : Nat) (pc : Bool) :
    scan (s.data.toList.drop k) br co pc = scan (s[k] :: s.data.toList.drop (k + 1)) br co pc := by rw [← drop_cons s k h]

theorem scan_58 (c : UInt8) (l : List UInt8) (br co : Nat) (pc : Bool) (h : ((c.toNat : Int) == 58) = true) :
    scan (c :: l) br co pc = if 8 < co + 1 then false else scan l br (co + 1) pc := by
  rw [scan, if_pos (show c = 58 from byte_eq c 58 (by decide) h)]
theorem scan_37 (c : UInt8) (l : List UInt8) (br co : Nat) (pc : Bool) (h1 : ((c.toNat : Int) == 58) = false) (h : ((c.toNat : Int) == 37) = true) :
    scan (c :: l) br co pc = scan l br co true := by
  rw [scan, if_neg (show ¬ c = 58 from byte_ne c 58 (by decide) h1), if_pos (show c = 37 from byte_eq c 37 (by decide) h)]
theorem scan_91 (c : UInt8) (l : List UInt8) (br co : Nat) (pc : Bool) (h1 : ((c.toNat : Int) == 58) = false) (h2 : ((c.toNat : Int) == 37) = false) (h : ((c.toNat : Int) == 91) = true) :
    scan (c :: l) br co pc = if br ≠ 0 ∨ pc = true then false else scan l 1 co pc := by
  rw [scan, if_neg (show ¬ c = 58 from byte_ne c 58 (by decide) h1), if_neg (show ¬ c = 37 from byte_ne c 37 (by decide) h2), if_pos (show c = 91 from byte_eq c 91 (by decide) h)]
theorem scan_93 (c : UInt8) (l : List UInt8) (br co : Nat) (pc : Bool) (h1 : ((c.toNat : Int) == 58) = false) (h2 : ((c.toNat : Int) == 37) = false) (h3 : ((c.toNat : Int) == 91) = false) (h : ((c.toNat : Int) == 93) = true) :
    scan (c :: l) br co pc = if br ≠ 1 then false else scan l 2 0 false := by
  rw [scan, if_neg (show ¬ c = 58 from byte_ne c 58 (by decide) h1), if_neg (show ¬ c = 37 from byte_ne c 37 (by decide) h2), if_neg (show ¬ c = 91 from byte_ne c 91 (by decide) h3), if_pos (show c = 93 from byte_eq c 93 (by decide) h)]
theorem scan_64 (c : UInt8) (l : List UInt8) (br co : Nat) (pc : Bool) (h1 : ((c.toNat : Int) == 58) = false) (h2 : ((c.toNat : Int) == 37) = false) (h3 : ((c.toNat : Int) == 91) = false) (h4 : ((c.toNat : Int) == 93) = false) (h : ((c.toNat : Int) == 64) = true) :
    scan (c :: l) br co pc = scan l br 0 false := by
  rw [scan, if_neg (show ¬ c = 58 from byte_ne c 58 (by decide) h1), if_neg (show ¬ c = 37 from byte_ne c 37 (by decide) h2), if_neg (show ¬ c = 91 from byte_ne c 91 (by decide) h3), if_neg (show ¬ c = 93 from byte_ne c 93 (by decide) h4), if_pos (show c = 64 from byte_eq c 64 (by decide) h)]
theorem scan_else (c : UInt8) (l : List UInt8) (br co : Nat) (pc : Bool) (h1 : ((c.toNat : Int) == 58) = false) (h2 : ((c.toNat : Int) == 37) = false) (h3 : ((c.toNat : Int) == 91) = false) (h4 : ((c.toNat : Int) == 93) = false) (h : ((c.toNat : Int) == 64) = false) :
    scan (c :: l) br co pc = scan l br co pc := by
  rw [scan, if_neg (show ¬ c = 58 from byte_ne c 58 (by decide) h1), if_neg (show ¬ c = 37 from byte_ne c 37 (by decide) h2), if_neg (show ¬ c = 91 from byte_ne c 91 (by decide) h3), if_neg (show ¬ c = 93 from byte_ne c 93 (by decide) h4), if_neg (show ¬ c = 64 from byte_ne c 64 (by decide) h)]

set_option maxHeartbeats 400000 in
theorem isAuthority_refused (s : ByteArray) (w : World) (hs : s.size ≤ 1048576) (h : holds refusedA s.data.toList = false ∨ endsAt s.data.toList = true) :
    Calls Try.prog 29 #[.string s] w fun e w' => e = .returned (.bool false) ∧ w' = w := by
  have HH : ∀ b, holds refusedA s.data.toList = b → Hid (∀ w : World, Calls Try.prog 35 #[.string s, .string { data := #[34, 60, 62, 92, 94, 96, 123, 124, 125] }] w fun e w' => e = .returned (.bool b) ∧ w' = w) := by
    intro b hb w
    have := holdsOnly_any s { data := #[34, 60, 62, 92, 94, 96, 123, 124, 125] } w hs
    have e : holds ({ data := #[34, 60, 62, 92, 94, 96, 123, 124, 125] } : ByteArray).data.toList s.data.toList = b := hb
    rw [e] at this
    exact this
  have HE : ∀ b, endsAt s.data.toList = b → Hid (∀ w : World, Calls Try.prog 36 #[.string s, .string { data := #[64] }] w fun e w' => e = .returned (.bool b) ∧ w' = w) := by
    intro b hb w
    have := hasSuffix_any s w hs
    rw [hb] at this
    exact this
  cases h1 : holds refusedA s.data.toList
  · have H35 := HH _ h1
    clear HH HE h h1
    go_enter Try.func29, Try.ntmps29
    go_wp2_with (go_at_call 35; refine (H35.out _).mono ?_; rintro e w' ⟨rfl, rfl⟩)
    go_ret
    exact ⟨rfl, rfl⟩
  · have h2 : endsAt s.data.toList = true := by
      rcases h with h | h
      · rw [h1] at h; cases h
      · exact h
    have H35 := HH _ h1
    have H36 := HE _ h2
    clear HH HE h h1 h2
    go_enter Try.func29, Try.ntmps29
    go_wp2_with (first | (go_at_call 35; refine (H35.out _).mono ?_; rintro e w' ⟨rfl, rfl⟩) | (go_at_call 36; refine (H36.out _).mono ?_; rintro e w' ⟨rfl, rfl⟩))
    go_ret
    exact ⟨rfl, rfl⟩

set_option maxHeartbeats 2000000 in
theorem isAuthority_scan (s : ByteArray) (w : World) (hs : s.size ≤ 1048576) (h1 : holds refusedA s.data.toList = true) (h2 : endsAt s.data.toList = false) :
    Calls Try.prog 29 #[.string s] w fun e w' => e = .returned (.bool (scan s.data.toList 0 0 false)) ∧ w' = w := by
  have H35 : Hid (∀ w : World, Calls Try.prog 35 #[.string s, .string { data := #[34, 60, 62, 92, 94, 96, 123, 124, 125] }] w fun e w' => e = .returned (.bool true) ∧ w' = w) := by
    intro w
    have := holdsOnly_any s { data := #[34, 60, 62, 92, 94, 96, 123, 124, 125] } w hs
    have e : holds ({ data := #[34, 60, 62, 92, 94, 96, 123, 124, 125] } : ByteArray).data.toList s.data.toList = true := h1
    rw [e] at this
    exact this
  have H36 : Hid (∀ w : World, Calls Try.prog 36 #[.string s, .string { data := #[64] }] w fun e w' => e = .returned (.bool false) ∧ w' = w) := by
    intro w
    have := hasSuffix_any s w hs
    rw [h2] at this
    exact this
  clear h1 h2
  obtain ⟨R, hR⟩ : ∃ R, R = scan s.data.toList 0 0 false := ⟨_, rfl⟩
  rw [← hR]
  have HR : Hid (scan (s.data.toList.drop 0) 0 0 false = R) := hR.symm
  clear hR
  go_enter Try.func29, Try.ntmps29
  go_wp2_with (first | (go_at_call 35; refine (H35.out _).mono ?_; rintro e w ⟨rfl, rfl⟩) | (go_at_call 36; refine (H36.out _).mono ?_; rintro e w ⟨rfl, rfl⟩))
  go_loop [3, 4, 5, 6] (fun vb vc vp vi => ∃ (k br co : Nat) (pc : Bool), k ≤ s.size ∧ vi = .int .i64 k ∧ vb = .int .i64 br ∧ vc = .int .i64 co ∧ vp = .bool pc ∧ br ≤ 2 ∧ co ≤ 8 ∧ Hid (scan (s.data.toList.drop k) br co pc = R)) (fun _ _ _ vi => s.size - (intOf vi).toNat)
  case atStart => exact ⟨0, 0, 0, false, Nat.zero_le _, rfl, rfl, rfl, rfl, by omega, by omega, HR⟩
  case round =>
    obtain ⟨k, br, co, pc, hk, rfl, rfl, rfl, rfl, hbr, hco, hsc⟩ := hrel
    by_cases hlt : k < s.size
    · have hstep := hsc.out
      rw [scan_at s k hlt] at hstep
      cases h58 : ((s[k].toNat : Int) == 58)
      · cases h37 : ((s[k].toNat : Int) == 37)
        · cases h91 : ((s[k].toNat : Int) == 91)
          · cases h93 : ((s[k].toNat : Int) == 93)
            · cases h64 : ((s[k].toNat : Int) == 64)
              · rw [scan_else _ _ _ _ _ h58 h37 h91 h93 h64] at hstep
                have HS : Hid (scan (s.data.toList.drop (k + 1)) br co pc = R) := hstep
                clear hstep
                go_wp2
                go_round
                case rel => exact ⟨k + 1, br, co, pc, by omega, by go_num, rfl, rfl, rfl, hbr, hco, HS⟩
                case measure => simp [intOf]; omega
              · rw [scan_64 _ _ _ _ _ h58 h37 h91 h93 h64] at hstep
                have HS : Hid (scan (s.data.toList.drop (k + 1)) br 0 false = R) := hstep
                clear hstep
                go_wp2
                go_round
                case rel => exact ⟨k + 1, br, 0, false, by omega, by go_num, rfl, rfl, rfl, hbr, by omega, HS⟩
                case measure => simp [intOf]; omega
            · rw [scan_93 _ _ _ _ _ h58 h37 h91 h93] at hstep
              by_cases hb1 : br = 1
              · rw [if_neg (by omega)] at hstep
                have HS : Hid (scan (s.data.toList.drop (k + 1)) 2 0 false = R) := hstep
                clear hstep
                subst hb1
                go_wp2
                go_round
                case rel => exact ⟨k + 1, 2, 0, false, by omega, by go_num, rfl, rfl, rfl, by omega, by omega, HS⟩
                case measure => simp [intOf]; omega
              · rw [if_pos hb1] at hstep
                have HS : Hid (false = R) := hstep
                clear hstep
                have hb' : ((br : Int) != 1) = true := by simp; omega
                go_wp2
                go_ret
                exact ⟨ret_bool HS.out, rfl⟩
          · rw [scan_91 _ _ _ _ _ h58 h37 h91] at hstep
            by_cases hb0 : br = 0
            · subst hb0
              cases pc
              · rw [if_neg (by simp)] at hstep
                have HS : Hid (scan (s.data.toList.drop (k + 1)) 1 co false = R) := hstep
                clear hstep
                go_wp2
                go_round
                case rel => exact ⟨k + 1, 1, co, false, by omega, by go_num, rfl, rfl, rfl, by omega, hco, HS⟩
                case measure => simp [intOf]; omega
              · rw [if_pos (by simp)] at hstep
                have HS : Hid (false = R) := hstep
                clear hstep
                go_wp2
                go_ret
                exact ⟨ret_bool HS.out, rfl⟩
            · rw [if_pos (.inl hb0)] at hstep
              have HS : Hid (false = R) := hstep
              clear hstep
              have hb' : ((br : Int) != 0) = true := by simp; omega
              go_wp2
              go_ret
              exact ⟨ret_bool HS.out, rfl⟩
        · rw [scan_37 _ _ _ _ _ h58 h37] at hstep
          have HS : Hid (scan (s.data.toList.drop (k + 1)) br co true = R) := hstep
          clear hstep
          go_wp2
          go_round
          case rel => exact ⟨k + 1, br, co, true, by omega, by go_num, rfl, rfl, rfl, hbr, hco, HS⟩
          case measure => simp [intOf]; omega
      · rw [scan_58 _ _ _ _ _ h58] at hstep
        by_cases h8 : 8 < co + 1
        · rw [if_pos h8] at hstep
          have HS : Hid (false = R) := hstep
          clear hstep
          go_wp2
          go_ret
          exact ⟨ret_bool HS.out, rfl⟩
        · rw [if_neg h8] at hstep
          have HS : Hid (scan (s.data.toList.drop (k + 1)) br (co + 1) pc = R) := hstep
          clear hstep
          go_wp2
          go_round
          case rel => exact ⟨k + 1, br, co + 1, pc, by omega, by go_num, rfl, by go_num, rfl, hbr, by omega, HS⟩
          case measure => simp [intOf]; omega
    · have HF : Hid ((decide (br ≠ 1) && decide (co ≤ 1) && !pc) = R) := by
        have := hsc.out
        rw [List.drop_eq_nil_of_le (by simp; omega), scan] at this
        exact this
      clear hsc
      by_cases hb1 : br = 1
      · subst hb1
        go_wp2
        go_ret
        exact ⟨ret_bool (by rw [← HF.out]; rfl), rfl⟩
      · have hb' : ((br : Int) != 1) = true := by simp; omega
        by_cases hc1 : co ≤ 1
        · cases pc
          · go_wp2
            go_ret
            exact ⟨ret_bool (by rw [← HF.out]; simp [hb1, hc1]), rfl⟩
          · go_wp2
            go_ret
            exact ⟨ret_bool (by rw [← HF.out]; simp), rfl⟩
        · go_wp2
          go_ret
          exact ⟨ret_bool (by rw [← HF.out]; simp [hc1]), rfl⟩

theorem isAuthority_any (s : ByteArray) (w : World) (hs : s.size ≤ 1048576) :
    Calls Try.prog 29 #[.string s] w fun e w' => e = .returned (.bool (isAuth s.data.toList)) ∧ w' = w := by
  unfold isAuth
  cases h1 : holds refusedA s.data.toList
  · exact isAuthority_refused s w hs (.inl h1)
  · cases h2 : endsAt s.data.toList
    · exact isAuthority_scan s w hs h1 h2
    · exact isAuthority_refused s w hs (.inr h2)

set_option maxHeartbeats 400000 in
theorem zzIsAuthority_any (s : ByteArray) (w : World) (hs : s.size ≤ 1048576) :
    Calls Try.prog 15 #[.string s] w fun e w' => e = .returned (.bool (isAuth s.data.toList)) ∧ w' = w := by
  go_enter Try.func15, Try.ntmps15
  go_wp2_with (go_at_call 29; refine (isAuthority_any _ _ hs).mono ?_; rintro e w' ⟨rfl, rfl⟩)
  go_ret
  exact ⟨rfl, rfl⟩

end Go.Proofs.Qxb6602896a.Url
