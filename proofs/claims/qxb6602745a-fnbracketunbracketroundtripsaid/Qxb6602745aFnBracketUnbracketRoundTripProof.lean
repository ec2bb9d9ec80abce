/-
  The proof of 'Rows.FnBracketUnbracketRoundTripSaid'. The frame is the guide's template at this function's number and types; the walk is filled in.
-/
import Derived.Test.Qxb6602745aRows
import Derived.Test.Qxb6602745aWalk2
import Derived.WalkKit
import Derived.ProofKit
import Derived.OpenShut
import Derived.ShutString
namespace Go.Proofs.Qxb6602745a.fnBracketUnbracketRoundTrip
open Go.ChangeShapes Go.WideShapes Go.ChangeAt Go.RowKit
open Go.ChangeMaps (open_string shut_string)
set_option linter.unusedVariables false      -- a walk need not use every 'w<i>' (that an integer argument fits its kind)

theorem own : ownKnob Try.prog.godebug = none := by kernel_rfl

/-! ### STEP 1: THE WALK: the Go text returns true. 'Grown w w'': the world has at most new blocks (Derived/RowKit3.lean). Part the cases AHEAD of 'go_enter' where a test parts the walk; take each callee by a contract of your own. -/
theorem walk (a0 : ByteArray) (w0 : a0.size ≤ maxLen) (w : World) :
    Calls Try.prog 4 #[.string a0] w fun e w' => e = .returned (.bool true) ∧ Grown w w' := by
  by_cases hs : a0.size ≤ 1048576
  · cases hc : Brk.hasColon a0.data.toList
    · -- no colon: the host is handed on as it is
      have hB : Hid (a0.size ≤ 1048578) := by show _ ≤ _; omega
      have H := hc
      clear hc
      have HH : Hid (Brk.hasColon a0.data.toList = false) := H
      clear H
      have hEq : (a0.toList == a0.toList) = true := by simp
      go_enter Try.func4, Try.ntmps4
      go_wp2_with (first | (go_at_call 7; refine (Brk.bytes_any _ _ hs).mono ?_; rintro e w' ⟨rfl, rfl⟩) | (go_at_call 6; refine (Brk.zz_of (fun w => Brk.bracket_no a0 w HH.out) _).mono ?_; rintro e w' ⟨rfl, rfl⟩) | (go_at_call 8; refine (Brk.hasColon_any _ _ hB.out).mono ?_; rintro e w' ⟨rfl, rfl⟩; rw [HH.out]) | (go_at_call 9; refine (Brk.unbracket_no _ _ hB.out HH.out).mono ?_; rintro e w' ⟨rfl, rfl⟩))
      go_ret
      exact ⟨rfl, Grown.refl _⟩
    · have hB : Hid (a0.size ≤ 1048578) := by show _ ≤ _; omega
      have HH : Hid (Brk.hasColon a0.data.toList = true) := hc
      have hsz := Brk.bracketed_size a0
      have hlt0 : 0 < (Brk.bracketed a0).size := by omega
      have hlt1 : (Brk.bracketed a0).size - 1 < (Brk.bracketed a0).size := by omega
      have H2 : Hid (Brk.hasColon (Brk.bracketed a0).data.toList = true) := Brk.bracketed_colon a0 hc
      have hB2 : Hid ((Brk.bracketed a0).size ≤ 1048578) := by show _ ≤ _; omega
      have hb : Hid (2 ≤ (Brk.bracketed a0).size) := by show _ ≤ _; omega
      have h9 : Hid (∀ w : World, Calls Try.prog 9 #[.string (Brk.bracketed a0)] w fun e w' => e = .returned (.string a0) ∧ w' = w) := by
        intro w
        have := Brk.unbracket_yes (Brk.bracketed a0) w hB2.out H2.out hb.out (Brk.bracketed_first a0 hlt0) (Brk.bracketed_last a0 hlt1)
        rw [Brk.bracketed_inner] at this
        exact this
      have h6 : Hid (∀ w : World, Calls Try.prog 6 #[.string a0] w fun e w' => e = .returned (.string (Brk.bracketed a0)) ∧ w' = w) := by
        intro w
        exact Brk.zz_of (fun w => Brk.bracket_yes a0 w hs hc) w
      have hEq : (a0.toList == a0.toList) = true := by simp
      clear hc hsz hlt0 hlt1 hb
      generalize Brk.bracketed a0 = t at *
      go_enter Try.func4, Try.ntmps4
      go_wp2_with (first | (go_at_call 7; refine (Brk.bytes_any _ _ hs).mono ?_; rintro e w' ⟨rfl, rfl⟩) | (go_at_call 6; refine (h6.out _).mono ?_; rintro e w' ⟨rfl, rfl⟩) | fail)
      refine (Brk.hasColon_any _ _ hB2.out).mono ?_
      rintro e w' ⟨rfl, rfl⟩
      rw [H2.out]
      go_wp2_with fail
      refine (Brk.hasColon_any _ _ hB.out).mono ?_
      rintro e w' ⟨rfl, rfl⟩
      rw [HH.out]
      go_wp2_with (go_at_call 9; refine (h9.out _).mono ?_; rintro e w' ⟨rfl, rfl⟩)
      go_ret
      exact ⟨rfl, Grown.refl _⟩
  · go_enter Try.func4, Try.ntmps4
    go_wp2_with (go_at_call 7; refine (Brk.bytes_no _ _ hs w0).mono ?_; rintro e w' ⟨rfl, rfl⟩)
    go_ret
    exact ⟨rfl, Grown.refl _⟩

/-! ### THE ROW's STEP: WRITTEN OUT: LEAVE IT -/
set_option maxRecDepth 100000 in
theorem lifted (os : Os) (started : os.Started) (H : Type) (enc : TypeId × Value → H) :
    ReturnsInHanded {} Try.checked os 4 .any (Rows.fnBracketUnbracketRoundTripSpec.pre6 enc Try.prog Try.f4 Rows.fnBracketUnbracketRoundTripRow.domain false) (Rows.fnBracketUnbracketRoundTripSpec.post enc Try.prog Try.f4 false true false false) := by
  refine returnsInHanded_of_change (C := Try.checked) own started (by kernel_rfl) Try.func4
    (ChangeSpec.witness6 (enc := enc) (C := Try.checked) false ⟨#[], #[.string ByteArray.empty], []⟩ 8 (by kernel_rfl) (by kernel_rfl) (by kernel_rfl) (by kernel_rfl)) ?_
  intro W base args ds gs before hval0 hW hcnd _
  have hval : ∀ (j : Nat) t v, Try.f4.params[j]? = some t → args[j]? = some v → Value.okWide Try.prog W .any base t v := hval0
  have hW' := hW
  obtain ⟨p, q, hA0, hV, rfl, hfz, hnd⟩ := hW
  have hA : DataW.TrodAll enc Try.prog W 0 (fun _ => true) true Try.f4.params.toList args.toList ds p := hA0
  rw [Try.params4] at hA hval
  obtain ⟨v0, vs0, d0, ds0, p0, q0, hargs, rfl, rfl, h0, r0⟩ := trodAll_cons hA
  obtain ⟨rfl, rfl, rfl⟩ := trodAll_nil r0
  obtain rfl : args = #[v0] := by cases args; simp_all
  obtain ⟨rfl, rfl⟩ := trodVars_none hV
  obtain ⟨a0, rfl, rfl, rfl, w0⟩ := open_string Try.underlying9 (hval 0 9 v0 rfl rfl) h0
  clear hA0 hval0
  simp only [List.append_nil] at hW'
  refine (walk a0 w0 W).mono fun e W' ⟨he, hg⟩ => ?_
  subst he
  exact ⟨_, rfl, post_of_same (pa := []) (pv := []) hW' (fun _ _ _ => (trodAll_cons_mk (shut_bool Try.underlying4 _) trodAll_mk0)) (fun sp _ => (trodAll_cons_mk (shut_string Try.underlying9 w0) trodAll_mk0)) (fun _ _ => rfl) rfl
    (hg.frame _) hg.2.1 (ok_one (by kernel_rfl) rfl (okWide_bool_mk Try.underlying4 _))⟩

theorem over : Rows.fnBracketUnbracketRoundTripRow.holds Try.pinned (OpenSpec.ofChange Rows.fnBracketUnbracketRoundTripSpec) :=
  OpenClaim.holds_of_wide 4 Try.f4 rfl rfl rfl rfl rfl rfl rfl ⟨rfl, rfl, rfl, rfl, rfl⟩ rfl rfl rfl rfl rfl (by kernel_rfl) Try.func4 (by kernel_rfl)
    (of_decide_eq_true (by kernel_rfl)) (by unfold Func.isWrapper; first | (rw [if_pos (by decide +kernel)]; kernel_rfl) | (rw [if_neg (by decide +kernel)]; exact ⟨rfl, rfl⟩))
    (fun os started H enc _ => lifted os started H enc)

/-- ████ THE STATEMENT ████ -/
theorem proved : Rows.FnBracketUnbracketRoundTripSaid :=
  over
#print axioms proved
end Go.Proofs.Qxb6602745a.fnBracketUnbracketRoundTrip
