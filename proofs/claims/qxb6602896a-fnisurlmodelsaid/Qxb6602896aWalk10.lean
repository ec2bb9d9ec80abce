/-
  Seat b6602896a: the walk of strings.IndexRune at the text of the three end bytes, for a rune beyond ASCII.
-/
import Derived.Test.Qxb6602896aWalk9
import Derived.Test.Qxb6602896aShelf
import Derived.Deep.LoopGhost
namespace Go.Proofs.Qxb6602896a.Url
open Go.RowKit

theorem ends_ext (i e : Nat) (c : UInt8) (hc : 128 ≤ c.toNat) : Lib.indexByte (({ data := #[47, 63, 35] } : ByteArray).extract i e).data.toList c = -1 := by
  have h := firstIdx_ascii { data := #[47, 63, 35] } i e c (by decide) hc
  rw [Lib.firstIdx_eq] at h
  exact h

theorem index_none (s : ByteArray) (c : UInt8) (w : World) (h : Lib.indexByte s.data.toList c = -1) :
    Calls Try.prog 42 #[.string s, .int .u8 (c.toNat : Int)] w fun e w' => e = .returned (.int .i64 (-1)) ∧ w' = w := by
  have := indexByte_any s c w
  rw [h] at this
  exact this

theorem encode_shape (r : Int) (f1 : 2 ≤ (Utf8.encode r).size) (f2 : (Utf8.encode r).size ≤ 4) (f3 : ∀ h : (Utf8.encode r).size - 1 < (Utf8.encode r).size, 128 ≤ ((Utf8.encode r)[(Utf8.encode r).size - 1]'h).toNat) :
    (∃ a b, Utf8.encode r = ⟨#[a, b]⟩ ∧ 128 ≤ b.toNat) ∨ (∃ a a2 b, Utf8.encode r = ⟨#[a, a2, b]⟩ ∧ 128 ≤ b.toNat) ∨ (∃ a a2 a3 b, Utf8.encode r = ⟨#[a, a2, a3, b]⟩) := by
  obtain ⟨rs, hrs⟩ : ∃ rs, Utf8.encode r = rs := ⟨_, rfl⟩
  rw [hrs] at f1 f2 ⊢
  have f3' : ∀ h : rs.size - 1 < rs.size, 128 ≤ (rs[rs.size - 1]'h).toNat := by subst hrs; exact f3
  clear f3
  obtain ⟨⟨l⟩⟩ := rs
  have hsz : (⟨⟨l⟩⟩ : ByteArray).size = l.length := rfl
  rw [hsz] at f1 f2
  match l, f1, f2, f3' with
  | [a, b], _, _, f3' => exact .inl ⟨a, b, rfl, f3' (by show 1 < 2; decide)⟩
  | [a, a2, b], _, _, f3' => exact .inr (.inl ⟨a, a2, b, rfl, f3' (by show 2 < 3; decide)⟩)
  | [a, a2, a3, b], _, _, _ => exact .inr (.inr ⟨a, a2, a3, b, rfl⟩)
  | [], f1, _, _ => simp at f1
  | [_], f1, _, _ => simp at f1
  | _ :: _ :: _ :: _ :: _ :: _, _, f2, _ => simp at f2

set_option maxHeartbeats 2000000 in
set_option maxRecDepth 1000000 in
theorem indexRune_wide (r : Int) (w : World) (h128 : 128 ≤ r) (hv : Utf8.valid r = true) (hne : (r == 65533) = false) :
    Calls Try.prog 46 #[.string { data := #[47, 63, 35] }, .int .i32 r] w fun e w' => e = .returned (.int .i64 (-1)) ∧ Below w.heap.size w w' := by
  obtain ⟨f1, f2, f3⟩ := encode_facts r hv h128
  have HV : Hid (Lib.validRune r = true) := by
    have := validRune_eq r
    rw [hv] at this
    exact this.symm
  have hr1 : r ≤ 1114111 := by
    have := hv
    simp [Utf8.valid] at this
    omega
  clear hv
  go_enter Try.func46, Try.ntmps46
  go_wp2_with (go_at_call 53; refine (Try.utf8_ValidRune _ _).mono ?_; rintro e w ⟨rfl, rfl⟩; rw [HV.out])
  go_step3
  rcases encode_shape r f1 f2 f3 with ⟨a, b, hrs, hb⟩ | ⟨a, a2, b, hrs, hb⟩ | ⟨a, a2, a3, b, hrs⟩
  · have hneq : (((({ data := #[47, 63, 35] } : ByteArray)[1]'(by decide)).toNat : Int) != ((({ data := #[a, b] } : ByteArray)[1]'(by show 1 < 2; decide)).toNat : Int)) = true := by
      rw [bne_iff_ne]
      show (63 : Int) ≠ (b.toNat : Int)
      omega
    go_wp2
    refine wp_loop_rounds 1 ?_
    rw [rounds_succ]
    go_wp2
    go_step3
    go_wp2
    go_quiet (fail)
    have hb1 : Below w.heap.size w (w.drewN nq) := below_drewN (Below.refl _ _) nq
    generalize w.drewN nq = w1 at *
    go_wp2
    go_quiet ((go_at_call 42; exact Calls.quiet_of_same (index_none _ _ _ (ends_ext _ _ _ hb))))
    go_wp2
    rw [Exit.noGoto_ret]
    go_wp2
    rw [Exit.noGoto_ret]
    go_wp2
    go_ret
    exact ⟨rfl, below_drewN hb1 _⟩
  · have hneq : (((({ data := #[47, 63, 35] } : ByteArray)[2]'(by decide)).toNat : Int) != ((({ data := #[a, a2, b] } : ByteArray)[2]'(by show 2 < 3; decide)).toNat : Int)) = true := by
      rw [bne_iff_ne]
      show (35 : Int) ≠ (b.toNat : Int)
      omega
    go_wp2
    refine wp_loop_rounds 1 ?_
    rw [rounds_succ]
    go_wp2
    go_step3
    go_wp2
    go_quiet (fail)
    have hb1 : Below w.heap.size w (w.drewN nq) := below_drewN (Below.refl _ _) nq
    generalize w.drewN nq = w1 at *
    go_wp2
    go_quiet ((go_at_call 42; exact Calls.quiet_of_same (index_none _ _ _ rfl)))
    go_wp2
    rw [Exit.noGoto_ret]
    go_wp2
    rw [Exit.noGoto_ret]
    go_wp2
    go_ret
    exact ⟨rfl, below_drewN hb1 _⟩
  · go_wp2
    refine wp_loop_rounds 1 ?_
    rw [rounds_succ]
    go_wp2
    rw [Exit.noGoto_ret]
    go_ret
    exact ⟨rfl, Below.refl _ _⟩

end Go.Proofs.Qxb6602896a.Url
