/-
  Seat b6602896a: what the model's decoding of UTF-8 gives at a byte beyond ASCII.
-/
import Derived.Lib.DecodeN
namespace Go.Proofs.Qxb6602896a.Url

theorem get_bang (s : ByteArray) (j : Nat) (h : j < s.size) : s.get! j = s[j] := by
  simp [ByteArray.get!, getElem!_pos, h]
  rfl

set_option maxHeartbeats 1000000 in
theorem decodeN_wide (n b0 b1 b2 b3 : Nat) (hn : 0 < n) (h0 : 128 ≤ b0) (h256 : b0 < 256) (g1 : b1 < 256) (g2 : b2 < 256) (g3 : b3 < 256) :
    128 ≤ (Lib.decodeN n b0 b1 b2 b3).1 ∧ Utf8.valid ((Lib.decodeN n b0 b1 b2 b3).1 : Int) = true ∧ 1 ≤ (Lib.decodeN n b0 b1 b2 b3).2 ∧ (Lib.decodeN n b0 b1 b2 b3).2 ≤ n ∧ (Lib.decodeN n b0 b1 b2 b3).2 ≤ 4 ∧
    (2 ≤ (Lib.decodeN n b0 b1 b2 b3).2 → 128 ≤ b1) ∧ (3 ≤ (Lib.decodeN n b0 b1 b2 b3).2 → 128 ≤ b2) ∧ (4 ≤ (Lib.decodeN n b0 b1 b2 b3).2 → 128 ≤ b3) := by
  unfold Lib.decodeN
  repeat' split
  all_goals (simp [Utf8.valid]; try omega)

theorem decode_wide (s : ByteArray) (pos : Nat) (h : pos < s.size) (ha : 128 ≤ (s[pos]'h).toNat) :
    128 ≤ (Utf8.decode s pos).1 ∧ Utf8.valid ((Utf8.decode s pos).1 : Int) = true ∧ 1 ≤ (Utf8.decode s pos).2 ∧ pos + (Utf8.decode s pos).2 ≤ s.size ∧
    ∀ (j : Nat) (hj : j < s.size), pos ≤ j → j < pos + (Utf8.decode s pos).2 → 128 ≤ (s[j]'hj).toNat := by
  have e := Lib.decode_at s pos
  have hw := decodeN_wide (s.size - pos) (s.get! pos).toNat (s.get! (pos + 1)).toNat (s.get! (pos + 2)).toNat (s.get! (pos + 3)).toNat (by omega) (by rw [get_bang s pos h]; exact ha)
    (s.get! pos).toNat_lt (s.get! (pos + 1)).toNat_lt (s.get! (pos + 2)).toNat_lt (s.get! (pos + 3)).toNat_lt
  rw [← e] at hw
  obtain ⟨w1, w2, w3, w4, w5, w6, w7, w8⟩ := hw
  refine ⟨w1, w2, w3, by omega, fun j hj h1 h2 => ?_⟩
  rcases (show j = pos ∨ j = pos + 1 ∨ j = pos + 2 ∨ j = pos + 3 by omega) with rfl | rfl | rfl | rfl
  · exact ha
  · rw [← get_bang s _ hj]; exact w6 (by omega)
  · rw [← get_bang s _ hj]; exact w7 (by omega)
  · rw [← get_bang s _ hj]; exact w8 (by omega)

end Go.Proofs.Qxb6602896a.Url
