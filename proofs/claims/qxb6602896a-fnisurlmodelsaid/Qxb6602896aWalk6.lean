/-
  Seat b6602896a: the walks of the scheme's byte, of strings.HasPrefix, of strings.Cut.
-/
import Derived.Test.Qxb6602896aWalk5
namespace Go.Proofs.Qxb6602896a.Url
open Go.RowKit

/-! ### zzSchemeByte -/

set_option maxRecDepth 100000 in
theorem or_letter0 : ∀ n : Fin 256, (97 ≤ (n.val ||| 32) ∧ (n.val ||| 32) ≤ 122) ↔ ((97 ≤ n.val ∧ n.val ≤ 122) ∨ (65 ≤ n.val ∧ n.val ≤ 90)) := by decide

theorem or_letter (c : UInt8) : (97 ≤ bits BinOp.or IntKind.u8 (c.toNat : Int) 32 ∧ bits BinOp.or IntKind.u8 (c.toNat : Int) 32 ≤ 122) ↔ ((97 ≤ c.toNat ∧ c.toNat ≤ 122) ∨ (65 ≤ c.toNat ∧ c.toNat ≤ 90)) := by
  have h := u8_or_nat c.toNat 32 c.toNat_lt (by decide)
  have e : bits BinOp.or IntKind.u8 (c.toNat : Int) 32 = ((c.toNat ||| 32 : Nat) : Int) := h
  have h0 := or_letter0 ⟨c.toNat, c.toNat_lt⟩
  simp only at h0
  rw [e, ← h0]
  constructor
  · intro h; exact ⟨by omega, by omega⟩
  · intro h; exact ⟨by omega, by omega⟩

theorem schemeB_letter (c : UInt8) (h : (97 ≤ c.toNat ∧ c.toNat ≤ 122) ∨ (65 ≤ c.toNat ∧ c.toNat ≤ 90)) : schemeB c = true := by
  unfold schemeB
  rcases h with h | h
  · simp [h]
  · simp [h]
theorem schemeB_digit (c : UInt8) (h1 : 48 ≤ (c.toNat : Int)) (h2 : (c.toNat : Int) ≤ 57) : schemeB c = true := by
  have a : 48 ≤ c.toNat := by omega
  have b : c.toNat ≤ 57 := by omega
  unfold schemeB
  simp [a, b]
theorem schemeB_43 (c : UInt8) (h : ((c.toNat : Int) == 43) = true) : schemeB c = true := by
  rw [show c = 43 from byte_eq c 43 (by decide) h]; decide
theorem schemeB_45 (c : UInt8) (h : ((c.toNat : Int) == 45) = true) : schemeB c = true := by
  rw [show c = 45 from byte_eq c 45 (by decide) h]; decide
theorem schemeB_46 (c : UInt8) (h : ((c.toNat : Int) == 46) = true) : schemeB c = true := by
  rw [show c = 46 from byte_eq c 46 (by decide) h]; decide
theorem schemeB_no (c : UInt8) (hl : ¬ ((97 ≤ c.toNat ∧ c.toNat ≤ 122) ∨ (65 ≤ c.toNat ∧ c.toNat ≤ 90))) (hd : ¬ (48 ≤ (c.toNat : Int) ∧ (c.toNat : Int) ≤ 57)) (h43 : ((c.toNat : Int) == 43) = false) (h45 : ((c.toNat : Int) == 45) = false) (h46 : ((c.toNat : Int) == 46) = false) : schemeB c = false := by
  have e43 : ¬ c = 43 := byte_ne c 43 (by decide) h43
  have e45 : ¬ c = 45 := byte_ne c 45 (by decide) h45
  have e46 : ¬ c = 46 := byte_ne c 46 (by decide) h46
  unfold schemeB
  simp only [Bool.or_eq_false_iff, Bool.and_eq_false_iff, decide_eq_false_iff_not, beq_eq_false_iff_ne]
  refine ⟨⟨⟨⟨⟨?_, ?_⟩, ?_⟩, e43⟩, e45⟩, e46⟩ <;> omega

set_option maxHeartbeats 4000000 in
theorem schemeByte_any (c : UInt8) (w : World) :
    Calls Try.prog 41 #[.int .u8 (c.toNat : Int)] w fun e w' => e = .returned (.bool (schemeB c)) ∧ w' = w := by
  have hlet := or_letter c
  obtain ⟨v, hv⟩ : ∃ v, bits BinOp.or IntKind.u8 (c.toNat : Int) 32 = v := ⟨_, rfl⟩
  rw [hv] at hlet
  by_cases hl : 97 ≤ v ∧ v ≤ 122
  · have HV : Hid (schemeB c = true) := schemeB_letter c (hlet.1 hl)
    obtain ⟨hl1, hl2⟩ := hl
    clear hlet
    go_enter Try.func41, Try.ntmps41
    go_wp2
    go_ret
    exact ⟨ret_bool HV.out.symm, rfl⟩
  · rcases (show v < 97 ∨ 122 < v by omega) with hv1 | hv1
    · by_cases hd : 48 ≤ (c.toNat : Int) ∧ (c.toNat : Int) ≤ 57
      · obtain ⟨hd1, hd2⟩ := hd
        have HV : Hid (schemeB c = true) := schemeB_digit c hd1 hd2
        clear hlet hl
        go_enter Try.func41, Try.ntmps41
        go_wp2
        go_ret
        exact ⟨ret_bool HV.out.symm, rfl⟩
      · rcases (show (c.toNat : Int) < 48 ∨ 57 < (c.toNat : Int) by omega) with hd1 | hd1
        · cases h43 : ((c.toNat : Int) == 43)
          · cases h45 : ((c.toNat : Int) == 45)
            · cases h46 : ((c.toNat : Int) == 46)
              · have HV : Hid (schemeB c = false) := schemeB_no c (fun h => hl (hlet.2 h)) hd h43 h45 h46
                clear hlet hl hd
                go_enter Try.func41, Try.ntmps41
                go_wp2
                go_ret
                first | exact ⟨ret_bool HV.out.symm, rfl⟩ | exact ⟨ret_bool (by rw [HV.out]; simp; omega), rfl⟩
              · have HV : Hid (schemeB c = true) := schemeB_46 c h46
                clear hlet hl hd
                go_enter Try.func41, Try.ntmps41
                go_wp2
                go_ret
                exact ⟨ret_bool HV.out.symm, rfl⟩
            · have HV : Hid (schemeB c = true) := schemeB_45 c h45
              clear hlet hl hd
              go_enter Try.func41, Try.ntmps41
              go_wp2
              go_ret
              exact ⟨ret_bool HV.out.symm, rfl⟩
          · have HV : Hid (schemeB c = true) := schemeB_43 c h43
            clear hlet hl hd
            go_enter Try.func41, Try.ntmps41
            go_wp2
            go_ret
            exact ⟨ret_bool HV.out.symm, rfl⟩
        · have h43 : ((c.toNat : Int) == 43) = false := by simp; omega
          have h45 : ((c.toNat : Int) == 45) = false := by simp; omega
          have h46 : ((c.toNat : Int) == 46) = false := by simp; omega
          have HV : Hid (schemeB c = false) := schemeB_no c (fun h => hl (hlet.2 h)) hd h43 h45 h46
          clear hlet hl hd
          go_enter Try.func41, Try.ntmps41
          go_wp2
          go_ret
          first | exact ⟨ret_bool HV.out.symm, rfl⟩ | exact ⟨ret_bool (by rw [HV.out]; simp; omega), rfl⟩
    · have hv2 : 97 ≤ v := by omega
      by_cases hd : 48 ≤ (c.toNat : Int) ∧ (c.toNat : Int) ≤ 57
      · obtain ⟨hd1, hd2⟩ := hd
        have HV : Hid (schemeB c = true) := schemeB_digit c hd1 hd2
        clear hlet hl
        go_enter Try.func41, Try.ntmps41
        go_wp2
        go_ret
        exact ⟨ret_bool HV.out.symm, rfl⟩
      · rcases (show (c.toNat : Int) < 48 ∨ 57 < (c.toNat : Int) by omega) with hd1 | hd1
        · cases h43 : ((c.toNat : Int) == 43)
          · cases h45 : ((c.toNat : Int) == 45)
            · cases h46 : ((c.toNat : Int) == 46)
              · have HV : Hid (schemeB c = false) := schemeB_no c (fun h => hl (hlet.2 h)) hd h43 h45 h46
                clear hlet hl hd
                go_enter Try.func41, Try.ntmps41
                go_wp2
                go_ret
                first | exact ⟨ret_bool HV.out.symm, rfl⟩ | exact ⟨ret_bool (by rw [HV.out]; simp; omega), rfl⟩
              · have HV : Hid (schemeB c = true) := schemeB_46 c h46
                clear hlet hl hd
                go_enter Try.func41, Try.ntmps41
                go_wp2
                go_ret
                exact ⟨ret_bool HV.out.symm, rfl⟩
            · have HV : Hid (schemeB c = true) := schemeB_45 c h45
              clear hlet hl hd
              go_enter Try.func41, Try.ntmps41
              go_wp2
              go_ret
              exact ⟨ret_bool HV.out.symm, rfl⟩
          · have HV : Hid (schemeB c = true) := schemeB_43 c h43
            clear hlet hl hd
            go_enter Try.func41, Try.ntmps41
            go_wp2
            go_ret
            exact ⟨ret_bool HV.out.symm, rfl⟩
        · have h43 : ((c.toNat : Int) == 43) = false := by simp; omega
          have h45 : ((c.toNat : Int) == 45) = false := by simp; omega
          have h46 : ((c.toNat : Int) == 46) = false := by simp; omega
          have HV : Hid (schemeB c = false) := schemeB_no c (fun h => hl (hlet.2 h)) hd h43 h45 h46
          clear hlet hl hd
          go_enter Try.func41, Try.ntmps41
          go_wp2
          go_ret
          first | exact ⟨ret_bool HV.out.symm, rfl⟩ | exact ⟨ret_bool (by rw [HV.out]; simp; omega), rfl⟩

end Go.Proofs.Qxb6602896a.Url
