/-
  Seat b6602896a: the walks of strings.HasPrefix at two slashes, of cutScheme, of strings.Cut at one byte.
-/
import Derived.Test.Qxb6602896aWalk6
namespace Go.Proofs.Qxb6602896a.Url
open Go.RowKit

/-! ### strings.HasPrefix at two slashes -/

def slashes (l : List UInt8) : Bool := decide (l.take 2 = [47, 47])

theorem slashes_short (s : ByteArray) (h : ¬ 2 ≤ s.size) : slashes s.data.toList = false := by
  unfold slashes
  have : s.data.toList.length = s.size := len_list s
  simp only [decide_eq_false_iff_not]
  intro e
  have := congrArg List.length e
  simp at this
  omega

theorem slashes_eq (s : ByteArray) : ((s.extract 0 2).toList == [47, 47]) = slashes s.data.toList := by
  unfold slashes
  rw [Lib.toList_data, ByteArray.data_extract, Array.toList_extract]
  rw [Bool.eq_iff_iff]
  simp [List.extract]

set_option maxHeartbeats 400000 in
theorem hasPrefix_any (s : ByteArray) (w : World) (hs : s.size ≤ 1048576) :
    Calls Try.prog 45 #[.string s, .string { data := #[47, 47] }] w fun e w' => e = .returned (.bool (slashes s.data.toList)) ∧ w' = w := by
  have h52 : Hid (∀ w : World, Calls Try.prog 52 #[.string s, .string { data := #[47, 47] }] w fun e w' => e = .returned (.bool (slashes s.data.toList)) ∧ w' = w) := by
    intro w
    by_cases h : 2 ≤ s.size
    · have HE : Hid (((s.extract 0 2).toList == [47, 47]) = slashes s.data.toList) := slashes_eq s
      go_enter Try.func52, Try.ntmps52
      go_wp2
      go_ret
      exact ⟨ret_bool HE.out, rfl⟩
    · have HE : Hid (slashes s.data.toList = false) := slashes_short s h
      go_enter Try.func52, Try.ntmps52
      go_wp2
      go_ret
      exact ⟨ret_bool HE.out.symm, rfl⟩
  go_enter Try.func45, Try.ntmps45
  go_wp2_with (go_at_call 52; refine (h52.out _).mono ?_; rintro e w' ⟨rfl, rfl⟩)
  go_ret
  exact ⟨rfl, rfl⟩

/-! ### cutScheme -/

def cutVal (s : ByteArray) : Option Nat → Value
  | some k => .tuple #[.string (s.extract (k + 3) s.size), .bool true]
  | none => .tuple #[.string s, .bool false]

theorem drop_extract (s : ByteArray) (k : Nat) : (s.extract k s.size).data.toList = s.data.toList.drop k := by
  rw [ByteArray.data_extract, Array.toList_extract]
  simp only [List.extract]
  rw [List.take_of_length_le]
  simp

theorem sch_on (s : ByteArray) (k : Nat) (h : k < s.size) (R : Option Nat) (h58 : ((s[k].toNat : Int) == 58) = false) (hb : schemeB s[k] = true) (hr : (schemeAt (s.data.toList.drop k)).map (· + k) = R) :
    (schemeAt (s.data.toList.drop (k + 1))).map (· + (k + 1)) = R := by
  rw [drop_cons s k h, schemeAt, if_neg (show ¬ s[k] = 58 from byte_ne s[k] 58 (by decide) h58), if_pos hb] at hr
  rw [← hr]
  cases schemeAt (s.data.toList.drop (k + 1)) with
  | none => rfl
  | some m => simp; omega

theorem sch_no (s : ByteArray) (k : Nat) (h : k < s.size) (R : Option Nat) (h58 : ((s[k].toNat : Int) == 58) = false) (hb : schemeB s[k] = false) (hr : (schemeAt (s.data.toList.drop k)).map (· + k) = R) : R = none := by
  rw [drop_cons s k h, schemeAt, if_neg (show ¬ s[k] = 58 from byte_ne s[k] 58 (by decide) h58), if_neg (by rw [hb]; decide)] at hr
  rw [← hr]; rfl

theorem sch_colon (s : ByteArray) (k : Nat) (h : k < s.size) (R : Option Nat) (h58 : ((s[k].toNat : Int) == 58) = true) (hr : (schemeAt (s.data.toList.drop k)).map (· + k) = R) :
    R = if slashes (s.data.toList.drop (k + 1)) then some k else none := by
  rw [drop_cons s k h, schemeAt, if_pos (show s[k] = 58 from byte_eq s[k] 58 (by decide) h58)] at hr
  rw [← hr]
  unfold slashes
  by_cases e : (s.data.toList.drop (k + 1)).take 2 = [47, 47] <;> simp [e]

theorem slashes_room (s : ByteArray) (k : Nat) (h : slashes (s.data.toList.drop (k + 1)) = true) : k + 3 ≤ s.size := by
  unfold slashes at h
  have e := of_decide_eq_true h
  have := congrArg List.length e
  simp at this
  omega

set_option maxHeartbeats 4000000 in
theorem cutScheme_any (s : ByteArray) (w : World) (hs : s.size ≤ 1048576) :
    Calls Try.prog 38 #[.string s] w fun e w' => e = .returned (cutVal s (schemeAt s.data.toList)) ∧ w' = w := by
  obtain ⟨R, hR⟩ : ∃ R, R = schemeAt s.data.toList := ⟨_, rfl⟩
  rw [← hR]
  have HR : Hid ((schemeAt (s.data.toList.drop 0)).map (· + 0) = R) := by
    show _ = _
    rw [hR]; simp
  clear hR
  go_enter Try.func38, Try.ntmps38
  go_wp2
  go_loop [4] (fun i => ∃ k : Nat, k ≤ s.size ∧ i = .int .i64 k ∧ Hid ((schemeAt (s.data.toList.drop k)).map (· + k) = R)) (fun i => s.size - (intOf i).toNat)
  case atStart => exact ⟨0, Nat.zero_le _, rfl, HR⟩
  case round =>
    obtain ⟨k, hk, rfl, hrun⟩ := hrel
    by_cases hlt : k < s.size
    · cases h58 : ((s[k].toNat : Int) == 58)
      · by_cases c1 : 97 ≤ (s[k].toNat : Int)
        · by_cases c2 : (s[k].toNat : Int) ≤ 122
          · have HN : Hid ((schemeAt (s.data.toList.drop (k + 1))).map (· + (k + 1)) = R) := sch_on s k hlt R h58 (schemeB_letter _ (.inl (by omega))) hrun.out
            go_wp2
            go_round
            case rel => exact ⟨k + 1, by omega, by go_num, HN⟩
            case measure => simp [intOf]; omega
          · have h43 : ((s[k].toNat : Int) == 43) = false := by simp; omega
            have h45 : ((s[k].toNat : Int) == 45) = false := by simp; omega
            have h46 : ((s[k].toNat : Int) == 46) = false := by simp; omega
            have c3 : 65 ≤ (s[k].toNat : Int) := by omega
            have c4 : ¬ (s[k].toNat : Int) ≤ 90 := by omega
            have c5 : 48 ≤ (s[k].toNat : Int) := by omega
            have c6 : ¬ (s[k].toNat : Int) ≤ 57 := by omega
            have HN : Hid (R = none) := sch_no s k hlt R h58 (schemeB_no s[k] (by omega) (by omega) h43 h45 h46) hrun.out
            go_wp2
            go_ret2
            exact ⟨by rw [HN.out]; rfl, rfl⟩
        · by_cases c3 : 65 ≤ (s[k].toNat : Int)
          · by_cases c4 : (s[k].toNat : Int) ≤ 90
            · have HN : Hid ((schemeAt (s.data.toList.drop (k + 1))).map (· + (k + 1)) = R) := sch_on s k hlt R h58 (schemeB_letter _ (.inr (by omega))) hrun.out
              go_wp2
              go_round
              case rel => exact ⟨k + 1, by omega, by go_num, HN⟩
              case measure => simp [intOf]; omega
            · have h43 : ((s[k].toNat : Int) == 43) = false := by simp; omega
              have h45 : ((s[k].toNat : Int) == 45) = false := by simp; omega
              have h46 : ((s[k].toNat : Int) == 46) = false := by simp; omega
              have c5 : 48 ≤ (s[k].toNat : Int) := by omega
              have c6 : ¬ (s[k].toNat : Int) ≤ 57 := by omega
              have HN : Hid (R = none) := sch_no s k hlt R h58 (schemeB_no s[k] (by omega) (by omega) h43 h45 h46) hrun.out
              go_wp2
              go_ret2
              exact ⟨by rw [HN.out]; rfl, rfl⟩
          · by_cases c5 : 48 ≤ (s[k].toNat : Int)
            · by_cases c6 : (s[k].toNat : Int) ≤ 57
              · have HN : Hid ((schemeAt (s.data.toList.drop (k + 1))).map (· + (k + 1)) = R) := sch_on s k hlt R h58 (schemeB_digit _ c5 c6) hrun.out
                go_wp2
                go_round
                case rel => exact ⟨k + 1, by omega, by go_num, HN⟩
                case measure => simp [intOf]; omega
              · have h43 : ((s[k].toNat : Int) == 43) = false := by simp; omega
                have h45 : ((s[k].toNat : Int) == 45) = false := by simp; omega
                have h46 : ((s[k].toNat : Int) == 46) = false := by simp; omega
                have HN : Hid (R = none) := sch_no s k hlt R h58 (schemeB_no s[k] (by omega) (by omega) h43 h45 h46) hrun.out
                go_wp2
                go_ret2
                exact ⟨by rw [HN.out]; rfl, rfl⟩
            · cases h43 : ((s[k].toNat : Int) == 43)
              · cases h45 : ((s[k].toNat : Int) == 45)
                · cases h46 : ((s[k].toNat : Int) == 46)
                  · have HN : Hid (R = none) := sch_no s k hlt R h58 (schemeB_no s[k] (by omega) (by omega) h43 h45 h46) hrun.out
                    go_wp2
                    go_ret2
                    exact ⟨by rw [HN.out]; rfl, rfl⟩
                  · have HN : Hid ((schemeAt (s.data.toList.drop (k + 1))).map (· + (k + 1)) = R) := sch_on s k hlt R h58 (schemeB_46 _ h46) hrun.out
                    go_wp2
                    go_round
                    case rel => exact ⟨k + 1, by omega, by go_num, HN⟩
                    case measure => simp [intOf]; omega
                · have HN : Hid ((schemeAt (s.data.toList.drop (k + 1))).map (· + (k + 1)) = R) := sch_on s k hlt R h58 (schemeB_45 _ h45) hrun.out
                  go_wp2
                  go_round
                  case rel => exact ⟨k + 1, by omega, by go_num, HN⟩
                  case measure => simp [intOf]; omega
              · have HN : Hid ((schemeAt (s.data.toList.drop (k + 1))).map (· + (k + 1)) = R) := sch_on s k hlt R h58 (schemeB_43 _ h43) hrun.out
                go_wp2
                go_round
                case rel => exact ⟨k + 1, by omega, by go_num, HN⟩
                case measure => simp [intOf]; omega
      · have HN : Hid (R = if slashes (s.data.toList.drop (k + 1)) then some k else none) := sch_colon s k hlt R h58 hrun.out
        have hdr := drop_extract s (k + 1)
        have H45 : Hid (∀ w : World, Calls Try.prog 45 #[.string (s.extract (k + 1) s.size), .string { data := #[47, 47] }] w fun e w' => e = .returned (.bool (slashes (s.data.toList.drop (k + 1)))) ∧ w' = w) := by
          intro w
          have := hasPrefix_any (s.extract (k + 1) s.size) w (by rw [ByteArray.size_extract]; omega)
          rw [hdr] at this
          exact this
        clear hdr
        cases hsl : slashes (s.data.toList.drop (k + 1))
        · have HR2 : Hid (R = none) := by show _ = _; rw [HN.out, hsl]; rfl
          have HSL : Hid (slashes (s.data.toList.drop (k + 1)) = false) := hsl
          clear hsl HN
          go_wp2_with fail
          refine (H45.out _).mono ?_
          rintro e w ⟨rfl, rfl⟩
          rw [HSL.out]
          go_wp2
          go_ret2
          exact ⟨by rw [HR2.out]; rfl, rfl⟩
        · have HR2 : Hid (R = some k) := by show _ = _; rw [HN.out, hsl]; rfl
          have hroom := slashes_room s k hsl
          have HSL : Hid (slashes (s.data.toList.drop (k + 1)) = true) := hsl
          clear hsl HN
          go_wp2_with fail
          refine (H45.out _).mono ?_
          rintro e w ⟨rfl, rfl⟩
          rw [HSL.out]
          go_wp2
          go_ret2
          exact ⟨by rw [HR2.out]; rfl, rfl⟩
    · have HN : Hid (R = none) := by
        have := hrun.out
        rw [List.drop_eq_nil_of_le (by simp; omega)] at this
        exact this.symm
      go_wp2
      go_ret2
      exact ⟨by rw [HN.out]; rfl, rfl⟩

end Go.Proofs.Qxb6602896a.Url
