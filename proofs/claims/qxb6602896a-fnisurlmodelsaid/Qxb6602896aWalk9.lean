/-
  Seat b6602896a: the walk of zzPathAndQuery.
-/
import Derived.Test.Qxb6602896aWalk8
namespace Go.Proofs.Qxb6602896a.Url
open Go.RowKit

theorem ok_mem (ref : List UInt8) (c : UInt8) (n : Nat) (hn : n < 256) (hm : ref.contains n.toUInt8 = true) (h : ((c.toNat : Int) == (n : Int)) = true) : okByte ref c = false := by
  rw [byte_eq c n hn h]
  unfold okByte
  simp only [hm, Bool.not_true, Bool.and_false]

theorem ok_three (a b d : Nat) (ha : a < 256) (hb : b < 256) (hd : d < 256) (c : UInt8) (h1 : 33 ≤ (c.toNat : Int)) (h2 : (c.toNat : Int) ≤ 126) (g1 : ((c.toNat : Int) == (a : Int)) = false) (g2 : ((c.toNat : Int) == (b : Int)) = false) (g3 : ((c.toNat : Int) == (d : Int)) = false) :
    okByte [a.toUInt8, b.toUInt8, d.toUInt8] c = true := by
  have e1 := byte_ne c a ha g1
  have e2 := byte_ne c b hb g2
  have e3 := byte_ne c d hd g3
  have x : 32 < c.toNat := by omega
  have y : c.toNat ≤ 126 := by omega
  unfold okByte
  simp only [x, y, decide_true, Bool.true_and, Bool.not_eq_true', List.contains_eq_mem, List.mem_cons, List.not_mem_nil, or_false, decide_eq_false_iff_not]
  rintro (h | h | h)
  · exact e1 h
  · exact e2 h
  · exact e3 h

set_option maxHeartbeats 4000000 in
theorem pathAndQuery_any (s : ByteArray) (w : World) (hs : s.size ≤ 1048576) :
    Calls Try.prog 40 #[.string s] w fun e w' => e = .returned (.bool (pq false s.data.toList)) ∧ w' = w := by
  obtain ⟨R, hR⟩ : ∃ R, R = pq false s.data.toList := ⟨_, rfl⟩
  rw [← hR]
  have HR : Hid (pq false (s.data.toList.drop 0) = R) := hR.symm
  clear hR
  go_enter Try.func40, Try.ntmps40
  go_wp2
  go_loop [3, 4] (fun vq i => ∃ (k : Nat) (q : Bool), k ≤ s.size ∧ i = .int .i64 k ∧ vq = .bool q ∧ Hid (pq q (s.data.toList.drop k) = R)) (fun _ i => s.size - (intOf i).toNat)
  case atStart => exact ⟨0, false, Nat.zero_le _, rfl, rfl, HR⟩
  case round =>
    obtain ⟨k, q, hk, rfl, rfl, hrun⟩ := hrel
    by_cases hlt : k < s.size
    · cases h35 : ((s[k].toNat : Int) == 35)
      · cases q
        · cases h63 : ((s[k].toNat : Int) == 63)
          · by_cases c1 : (s[k].toNat : Int) < 33
            · have HN : Hid (R = false) := by
                show _ = _
                rw [← hrun.out, pq_step s k hlt false h35 (fun _ => h63) false (ok_low _ _ (by omega))]
                rfl
              go_wp2
              go_ret
              exact ⟨ret_bool HN.out.symm, rfl⟩
            · by_cases c2 : 126 < (s[k].toNat : Int)
              · have HN : Hid (R = false) := by
                  show _ = _
                  rw [← hrun.out, pq_step s k hlt false h35 (fun _ => h63) false (ok_high _ _ c2)]
                  rfl
                go_wp2
                go_ret
                exact ⟨ret_bool HN.out.symm, rfl⟩
              · cases g1 : ((s[k].toNat : Int) == 60)
                · cases g2 : ((s[k].toNat : Int) == 62)
                  · cases g3 : ((s[k].toNat : Int) == 96)
                    · have HN : Hid (pq false (s.data.toList.drop (k + 1)) = R) := by
                        show _ = _
                        rw [← hrun.out, pq_step s k hlt false h35 (fun _ => h63) true (ok_three 60 62 96 (by decide) (by decide) (by decide) _ (by omega) (by omega) g1 g2 g3)]
                        rfl
                      go_wp2
                      go_round
                      case rel => exact ⟨k + 1, false, by omega, by go_num, rfl, HN⟩
                      case measure => simp [intOf]; omega
                    · have HN : Hid (R = false) := by
                        show _ = _
                        rw [← hrun.out, pq_step s k hlt false h35 (fun _ => h63) false (ok_mem refusedP _ 96 (by decide) (by decide) g3)]
                        rfl
                      go_wp2
                      go_ret
                      exact ⟨ret_bool HN.out.symm, rfl⟩
                  · have HN : Hid (R = false) := by
                      show _ = _
                      rw [← hrun.out, pq_step s k hlt false h35 (fun _ => h63) false (ok_mem refusedP _ 62 (by decide) (by decide) g2)]
                      rfl
                    go_wp2
                    go_ret
                    exact ⟨ret_bool HN.out.symm, rfl⟩
                · have HN : Hid (R = false) := by
                    show _ = _
                    rw [← hrun.out, pq_step s k hlt false h35 (fun _ => h63) false (ok_mem refusedP _ 60 (by decide) (by decide) g1)]
                    rfl
                  go_wp2
                  go_ret
                  exact ⟨ret_bool HN.out.symm, rfl⟩
          · have HN : Hid (pq true (s.data.toList.drop (k + 1)) = R) := by
              show _ = _
              rw [← hrun.out, pq_mark s k hlt h35 h63]
            go_wp2
            go_round
            case rel => exact ⟨k + 1, true, by omega, by go_num, rfl, HN⟩
            case measure => simp [intOf]; omega
        · by_cases c1 : (s[k].toNat : Int) < 33
          · have HN : Hid (R = false) := by
              show _ = _
              rw [← hrun.out, pq_step s k hlt true h35 (fun h => by cases h) false (ok_low _ _ (by omega))]
              rfl
            go_wp2
            go_ret
            exact ⟨ret_bool HN.out.symm, rfl⟩
          · by_cases c2 : 126 < (s[k].toNat : Int)
            · have HN : Hid (R = false) := by
                show _ = _
                rw [← hrun.out, pq_step s k hlt true h35 (fun h => by cases h) false (ok_high _ _ c2)]
                rfl
              go_wp2
              go_ret
              exact ⟨ret_bool HN.out.symm, rfl⟩
            · cases g1 : ((s[k].toNat : Int) == 34)
              · cases g2 : ((s[k].toNat : Int) == 60)
                · cases g3 : ((s[k].toNat : Int) == 62)
                  · have HN : Hid (pq true (s.data.toList.drop (k + 1)) = R) := by
                      show _ = _
                      rw [← hrun.out, pq_step s k hlt true h35 (fun h => by cases h) true (ok_three 34 60 62 (by decide) (by decide) (by decide) _ (by omega) (by omega) g1 g2 g3)]
                      rfl
                    go_wp2
                    go_round
                    case rel => exact ⟨k + 1, true, by omega, by go_num, rfl, HN⟩
                    case measure => simp [intOf]; omega
                  · have HN : Hid (R = false) := by
                      show _ = _
                      rw [← hrun.out, pq_step s k hlt true h35 (fun h => by cases h) false (ok_mem refusedQ _ 62 (by decide) (by decide) g3)]
                      rfl
                    go_wp2
                    go_ret
                    exact ⟨ret_bool HN.out.symm, rfl⟩
                · have HN : Hid (R = false) := by
                    show _ = _
                    rw [← hrun.out, pq_step s k hlt true h35 (fun h => by cases h) false (ok_mem refusedQ _ 60 (by decide) (by decide) g2)]
                    rfl
                  go_wp2
                  go_ret
                  exact ⟨ret_bool HN.out.symm, rfl⟩
              · have HN : Hid (R = false) := by
                  show _ = _
                  rw [← hrun.out, pq_step s k hlt true h35 (fun h => by cases h) false (ok_mem refusedQ _ 34 (by decide) (by decide) g1)]
                  rfl
                go_wp2
                go_ret
                exact ⟨ret_bool HN.out.symm, rfl⟩
      · have HN : Hid (R = true) := by
          show _ = _
          rw [← hrun.out, pq_hash s k hlt q h35]
        go_wp2
        go_ret
        exact ⟨ret_bool HN.out.symm, rfl⟩
    · have HN : Hid (R = true) := by
        have := hrun.out
        rw [List.drop_eq_nil_of_le (by simp; omega), pq] at this
        exact this.symm
      go_wp2
      go_ret
      exact ⟨ret_bool HN.out.symm, rfl⟩

end Go.Proofs.Qxb6602896a.Url
