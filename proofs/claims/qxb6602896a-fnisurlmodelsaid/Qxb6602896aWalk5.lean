/-
  Seat b6602896a: the walks of the url's small functions: the law's own helpers, strings.Cut, strings.HasPrefix.
-/
import Derived.Test.Qxb6602896aWalk2
import Derived.Test.Qxb6602896aPlain3
import Derived.Deep.QuietTactic
import Derived.BigQuiet
import Derived.Lib.IndexLaws
namespace Go.Proofs.Qxb6602896a.Url
open Go.RowKit

/-! ### zzAuthorityEnd -/

theorem isEnd_of (c : UInt8) (a b d : Bool) (h1 : ((c.toNat : Int) == 47) = a) (h2 : ((c.toNat : Int) == 63) = b) (h3 : ((c.toNat : Int) == 35) = d) : isEnd c = (a || b || d) := by
  have e (n : Nat) (hn : n < 256) : ((c.toNat : Int) == (n : Int)) = (c == n.toUInt8) := by
    cases h : ((c.toNat : Int) == (n : Int))
    · have := byte_ne c n hn h; simp [this]
    · have := byte_eq c n hn h; simp [this]
  unfold isEnd
  rw [← h1, ← h2, ← h3]
  rw [show ((c.toNat : Int) == 47) = (c == 47) from e 47 (by decide), show ((c.toNat : Int) == 63) = (c == 63) from e 63 (by decide), show ((c.toNat : Int) == 35) = (c == 35) from e 35 (by decide)]

theorem authEnd_at (s : ByteArray) (k : Nat) (h : k < s.size) : authEnd (s.data.toList.drop k) = if isEnd s[k] then 0 else authEnd (s.data.toList.drop (k + 1)) + 1 := by
  rw [drop_cons s k h, authEnd]

set_option maxHeartbeats 1000000 in
theorem authorityEnd_any (s : ByteArray) (w : World) (hs : s.size ≤ 1048576) :
    Calls Try.prog 24 #[.string s] w fun e w' => e = .returned (.int .i64 (authEnd s.data.toList : Int)) ∧ w' = w := by
  obtain ⟨R, hR⟩ : ∃ R, R = authEnd s.data.toList := ⟨_, rfl⟩
  rw [← hR]
  have HR : Hid (0 + authEnd (s.data.toList.drop 0) = R) := by
    show _ = _
    rw [hR]; simp
  clear hR
  go_enter Try.func24, Try.ntmps24
  go_wp2
  go_loop [3] (fun i => ∃ k : Nat, k ≤ s.size ∧ i = .int .i64 k ∧ Hid (k + authEnd (s.data.toList.drop k) = R)) (fun i => s.size - (intOf i).toNat)
  case atStart => exact ⟨0, Nat.zero_le _, rfl, HR⟩
  case round =>
    obtain ⟨k, hk, rfl, hrun⟩ := hrel
    by_cases hlt : k < s.size
    · cases h1 : ((s[k].toNat : Int) == 47)
      · cases h2 : ((s[k].toNat : Int) == 63)
        · cases h3 : ((s[k].toNat : Int) == 35)
          · have HN : Hid (k + 1 + authEnd (s.data.toList.drop (k + 1)) = R) := by
              have := hrun.out
              rw [authEnd_at s k hlt, isEnd_of _ _ _ _ h1 h2 h3] at this
              show _ = _
              rw [← this]; simp; omega
            go_wp2
            go_round
            case rel => exact ⟨k + 1, by omega, by go_num, HN⟩
            case measure => simp [intOf]; omega
          · have HN : Hid (k = R) := by
              have := hrun.out
              rw [authEnd_at s k hlt, isEnd_of _ _ _ _ h1 h2 h3] at this
              exact this
            go_wp2
            go_ret
            exact ⟨ret_int (by rw [HN.out]), rfl⟩
        · have HN : Hid (k = R) := by
            have := hrun.out
            rw [authEnd_at s k hlt, isEnd_of _ _ _ _ h1 h2 rfl] at this
            show _ = _
            simpa using this
          go_wp2
          go_ret
          exact ⟨ret_int (by rw [HN.out]), rfl⟩
      · have HN : Hid (k = R) := by
          have := hrun.out
          rw [authEnd_at s k hlt, isEnd_of _ _ _ _ h1 rfl rfl] at this
          show _ = _
          simpa using this
        go_wp2
        go_ret
        exact ⟨ret_int (by rw [HN.out]), rfl⟩
    · have HN : Hid (s.size = R) := by
        have := hrun.out
        rw [List.drop_eq_nil_of_le (by simp; omega), authEnd] at this
        show _ = _
        omega
      go_wp2
      go_ret
      exact ⟨ret_int (by rw [HN.out]), rfl⟩

/-! ### zzIndexByteFrom at 0 and the colon -/

def optInt : Option Nat → Int
  | some k => (k : Int)
  | none => -1

set_option maxHeartbeats 400000 in
theorem indexFrom_any (s : ByteArray) (w : World) (hs : s.size ≤ 1048576) :
    Calls Try.prog 26 #[.string s, .int .i64 0, .int .u8 58] w fun e w' => e = .returned (.int .i64 (optInt (firstAt 58 s.data.toList))) ∧ w' = w := by
  obtain ⟨R, hR⟩ : ∃ R, R = optInt (firstAt 58 s.data.toList) := ⟨_, rfl⟩
  rw [← hR]
  have HR : Hid (optInt ((firstAt 58 (s.data.toList.drop 0)).map (· + 0)) = R) := by
    show _ = _
    rw [hR]; simp
  clear hR
  go_enter Try.func26, Try.ntmps26
  go_wp2
  go_loop [7] (fun i => ∃ k : Nat, k ≤ s.size ∧ i = .int .i64 k ∧ Hid (optInt ((firstAt 58 (s.data.toList.drop k)).map (· + k)) = R)) (fun i => s.size - (intOf i).toNat)
  case atStart => exact ⟨0, Nat.zero_le _, rfl, HR⟩
  case round =>
    obtain ⟨k, hk, rfl, hrun⟩ := hrel
    by_cases hlt : k < s.size
    · cases h1 : ((s[k].toNat : Int) == 58)
      · have HN : Hid (optInt ((firstAt 58 (s.data.toList.drop (k + 1))).map (· + (k + 1))) = R) := by
          have := hrun.out
          rw [drop_cons s k hlt, firstAt, if_neg (show ¬ s[k] = 58 from byte_ne s[k] 58 (by decide) h1)] at this
          show _ = _
          rw [← this]
          cases firstAt 58 (s.data.toList.drop (k + 1)) with
          | none => rfl
          | some m => simp [optInt]; omega
        go_wp2
        go_round
        case rel => exact ⟨k + 1, by omega, by go_num, HN⟩
        case measure => simp [intOf]; omega
      · have HN : Hid ((k : Int) = R) := by
          have := hrun.out
          rw [drop_cons s k hlt, firstAt, if_pos (show s[k] = 58 from byte_eq s[k] 58 (by decide) h1)] at this
          show _ = _
          rw [← this]
          simp [optInt]
        go_wp2
        go_ret
        exact ⟨ret_int HN.out, rfl⟩
    · have HN : Hid ((-1 : Int) = R) := by
        have := hrun.out
        rw [List.drop_eq_nil_of_le (by simp; omega), firstAt] at this
        exact this
      go_wp2
      go_ret
      exact ⟨ret_int HN.out, rfl⟩

end Go.Proofs.Qxb6602896a.Url
