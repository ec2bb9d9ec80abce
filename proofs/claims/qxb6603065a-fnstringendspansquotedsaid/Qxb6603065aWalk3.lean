/-
  Seat b6603065a: the walk of FnStringEndSpansQuoted.
-/
import Derived.Test.Qxb6603065aWalk2
namespace Go.Proofs.Qxb6603065a.Sj
open Go.RowKit

set_option maxHeartbeats 400000 in
theorem bytes_any (a0 a1 a2 : Option Addr) (l0 c0 l1 c1 l2 c2 : Nat) (w : World) (h : l0 + l1 + l2 ≤ 1048576) :
    Calls Try.prog 17 #[.slice a0 l0 c0, .slice a1 l1 c1, .slice a2 l2 c2] w fun e w' => e = .returned (.bool true) ∧ w' = w := by
  go_enter Try.func17, Try.ntmps17
  go_wp2
  go_ret
  exact ⟨rfl, rfl⟩

set_option maxHeartbeats 1000000 in
theorem bytes_no (a0 a1 a2 : Option Addr) (l0 c0 l1 c1 l2 c2 : Nat) (w : World) (h : ¬ l0 + l1 + l2 ≤ 1048576) (h0 : l0 ≤ maxLen) (h1 : l1 ≤ maxLen) (h2 : l2 ≤ maxLen) :
    Calls Try.prog 17 #[.slice a0 l0 c0, .slice a1 l1 c1, .slice a2 l2 c2] w fun e w' => e = .returned (.bool false) ∧ w' = w := by
  unfold maxLen at h0 h1 h2
  go_enter Try.func17, Try.ntmps17
  go_wp2
  all_goals (go_ret; exact ⟨rfl, rfl⟩)

theorem ret_bool {a b : Bool} (h : a = b) : Ending.returned (.bool a) = .returned (.bool b) := by rw [h]

theorem quote_length (S : List UInt8) : (quote S).length = (body S).length + 2 := by simp [quote]

theorem came_cells {w w' : World} {a : Option Addr} {len cap : Nat} {S : List UInt8} (h : Came w a len cap S) (hb : Below w.heap.size w w') :
    ∀ ad, a = some ad → ∀ j u, (Lib.byteCells S)[j]? = some u → w'.cell? (ad.add j) = some u := by
  intro ad had j u hu
  have hj : j < S.length := by
    have := (List.getElem?_eq_some_iff.1 hu).1
    simpa [Lib.byteCells] using this
  obtain ⟨b, o, hab, hbw, hc⟩ := h.2.2 (by rw [← h.1]; omega)
  rw [hab] at had
  obtain rfl := Option.some.inj had
  rw [Addr.add_lit]
  rw [hb.cell (p := ⟨b, o + j, none⟩) hbw, hc j hj]
  simp [Lib.byteCells, List.getElem?_eq_getElem hj] at hu
  rw [hu]

theorem bytes_one (l : List UInt8) : ∀ u ∈ Lib.byteCells l, u.oneCell' = true := by
  intro u hu
  simp [Lib.byteCells] at hu
  obtain ⟨b, _, rfl⟩ := hu
  rfl

set_option maxHeartbeats 4000000 in
theorem spans_walk (a0 a1 a2 : Option Addr) (l0 c0 l1 c1 l2 c2 : Nat) (P S Q : List UInt8) (w : World) (hP : Came w a0 l0 c0 P) (hS : Came w a1 l1 c1 S) (hQ : Came w a2 l2 c2 Q)
    (n0 : a0 = none → l0 = 0 ∧ c0 = 0) (n2 : a2 = none → l2 = 0 ∧ c2 = 0) (hp : l0 ≤ 262144) (hs : l1 ≤ 65536) (hq : l2 ≤ 262144) (hsum : l0 + l1 + l2 ≤ 1048576) :
    Calls Try.prog 6 #[.slice a0 l0 c0, .slice a1 l1 c1, .slice a2 l2 c2] w fun e w' => e = .returned (.bool true) ∧ Below w.heap.size w w' := by
  obtain ⟨i0, hi, hz0, hz1, hz2⟩ := info_parts Info5
  obtain ⟨le, hle⟩ : ∃ le, le = (quote S).length := ⟨_, rfl⟩
  have hleb : le ≤ 6 * l1 + 2 := by
    have := body_le S
    rw [hle, quote_length, ← hS.1]; omega
  have HL : Hid (le = (quote S).length) := hle
  have h18 : Hid (Calls Try.prog 18 #[.slice a1 l1 c1] w fun e w' => e = .returned (.slice (some ⟨w.heap.size, 0, none⟩) le (6 * l1 + 2)) ∧ Row w w.heap.size w.heap.size (6 * l1 + 2) (quote S) w') := by
    rw [hle]; exact quote_any a1 l1 c1 S w hS hs
  have HP : Hid (Came w a0 l0 c0 P) := hP
  have HQ : Hid (Came w a2 l2 c2 Q) := hQ
  have N0 : Hid (a0 = none → l0 = 0 ∧ c0 = 0) := n0
  have N2 : Hid (a2 = none → l2 = 0 ∧ c2 = 0) := n2
  have hPl : Hid (P.length = l0) := hP.1
  have hQl : Hid (Q.length = l2) := hQ.1
  clear hP hS hQ n0 n2 hle
  go_enter Try.func6, Try.ntmps6
  go_wp2_with (first | (go_at_call 17; refine (bytes_any _ _ _ _ _ _ _ _ _ _ hsum).mono ?_; rintro e w ⟨rfl, rfl⟩) | fail)
  refine h18.out.mono ?_
  rintro e w1 ⟨rfl, hR1⟩
  have hsz1 := hR1.size
  have hn0 : (Lib.byteCells P).length = l0 * 1 := by rw [Lib.byteCells_length, hPl.out, Nat.mul_one]
  have hn1 : (Lib.byteCells (quote S)).length = le * 1 := by rw [Lib.byteCells_length, ← HL.out, Nat.mul_one]
  have hn2 : (Lib.byteCells Q).length = l2 * 1 := by rw [Lib.byteCells_length, hQl.out, Nat.mul_one]
  have Hn0 : Hid ((Lib.byteCells P).length = l0 * 1) := hn0
  have Hn1 : Hid ((Lib.byteCells (quote S)).length = le * 1) := hn1
  have Hn2 : Hid ((Lib.byteCells Q).length = l2 * 1) := hn2
  clear hn0 hn1 hn2
  go_wp2_with (first
    | (at_make; refine wpList_make_own _ rfl _ _ 22 rfl w.heap.size 5 i0 (.int .u8 0) 1 Try.underlying22 hi hz0 hz1 .i64 .i64 _ (l0 + le + l2) rfl rfl (by omega) (by rw [hz2]; omega) (by unfold maxLen; omega) (by omega) ?_; intro w2 hown2 hgrow2; have hB2 : Below w.heap.size w w2 := hR1.bel.grown hgrow2 (by omega) (by intro k hk; cases hk); have henc2 := hR1.own.kept hgrow2 (.inr (by simp [Value.ownBlock])))
    | (at_builtin; refine wpList_append_fits_any _ rfl (.tmp 34) (.tmp 35) 22 rfl w.heap.size 5 i0 1 Try.underlying22 hi hz1 w1.heap.size 0 (l0 + le + l2) [] rfl hown2 a0 l0 c0 (Lib.byteCells P) rfl Hn0.out N0.out (came_cells HP.out hB2) (bytes_one P) (by omega) ?_; intro w3 hown3 hgrow3; simp only [Nat.zero_add, List.nil_append] at hown3; have hB3 : Below w.heap.size w w3 := hB2.grown hgrow3 (by have := hgrow2.size; omega) (by intro k hk; simp at hk; omega); have henc3 := henc2.kept hgrow3 (.inr (by simp [Value.ownBlock]; omega)))
    | (at_builtin; refine wpList_append_fits _ rfl (.tmp 37) (.tmp 38) 22 rfl w.heap.size 5 i0 1 Try.underlying22 hi hz1 w1.heap.size l0 (l0 + le + l2) _ rfl hown3 ⟨w.heap.size, 0, none⟩ le (6 * l1 + 2) (Lib.byteCells (quote S)) rfl Hn1.out (henc3.cells rfl) (bytes_one _) (by omega) ?_; intro w4 hown4 hgrow4; have hB4 : Below w.heap.size w w4 := hB3.grown hgrow4 (by have := hgrow2.size; have := hgrow3.size; omega) (by intro k hk; simp at hk; omega))
    | (at_builtin; refine wpList_append_fits_any _ rfl (.tmp 40) (.tmp 41) 22 rfl w.heap.size 5 i0 1 Try.underlying22 hi hz1 w1.heap.size (l0 + le) (l0 + le + l2) _ rfl hown4 a2 l2 c2 (Lib.byteCells Q) rfl Hn2.out N2.out (came_cells HQ.out hB4) (bytes_one Q) (by omega) ?_; intro w5 hown5 hgrow5; have hB5 : Below w.heap.size w w5 := hB4.grown hgrow5 (by have := hgrow2.size; have := hgrow3.size; have := hgrow4.size; omega) (by intro k hk; simp at hk; omega))
    | fail)
  obtain ⟨D, hD⟩ : ∃ D, D = P ++ 34 :: (body S ++ 34 :: Q) := ⟨_, rfl⟩
  have hDl : D.length = l0 + le + l2 := by
    have := HL.out
    have := quote_length S
    have := hPl.out
    have := hQl.out
    rw [hD]; simp; omega
  have hDc : Lib.byteCells D = Lib.byteCells P ++ Lib.byteCells (quote S) ++ Lib.byteCells Q := by
    rw [← Lib.byteCells_append, ← Lib.byteCells_append, hD]
    congr 1
    simp [quote]
  have hcl : Cells w5 w1.heap.size 0 D := by
    intro j hj
    have := hown5.cells rfl j (.int .u8 (D[j].toNat : Int)) (by rw [← hDc]; simp [Lib.byteCells, List.getElem?_eq_getElem hj])
    rw [Addr.add_lit] at this
    exact this
  have h16 := zzStringEnd_any P S Q D w1.heap.size (l0 + le + l2) w5 hD (by omega) (by omega) hcl
  rw [hDl, hPl.out] at h16
  refine h16.mono ?_
  rintro e w6 ⟨rfl, hw6⟩
  subst hw6
  have HF : Hid (((l0 : Int) + ((body S).length : Int) + 2 == (l0 : Int) + (le : Int)) = true) := by
    have := HL.out
    have := quote_length S
    show _ = _
    simp; omega
  go_wp2
  go_ret
  exact ⟨ret_bool HF.out, hB5⟩

end Go.Proofs.Qxb6603065a.Sj
