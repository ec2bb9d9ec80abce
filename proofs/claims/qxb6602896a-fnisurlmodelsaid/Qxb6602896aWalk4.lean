/-
  Seat b6602896a: the walk of zzAuthorityModel.
-/
import Derived.Test.Qxb6602896aWalk3
import Derived.Deep.CutRange
namespace Go.Proofs.Qxb6602896a.Url
open Go.RowKit

set_option maxHeartbeats 8000000 in
set_option maxRecDepth 100000 in
theorem authorityModel_any (s : ByteArray) (w : World) (hs : s.size ≤ 1048576) :
    Calls Try.prog 16 #[.string s] w fun e w' => e = .returned (.bool (authModel s.data.toList)) ∧ w' = w := by
  obtain ⟨R, hR⟩ : ∃ R, R = authModel s.data.toList := ⟨_, rfl⟩
  rw [← hR]
  have HR : Hid (R = authModel s.data.toList) := hR
  clear hR
  go_enter Try.func16, Try.ntmps16
  go_wp2
  go_loop [3] (fun i => ∃ k : Nat, k ≤ s.size ∧ i = .int .i64 k ∧ Hid (holds refusedA (s.data.toList.take k) = true)) (fun i => s.size - (intOf i).toNat)
  case atStart => exact ⟨0, Nat.zero_le _, rfl, rfl⟩
  case round =>
    obtain ⟨k, hk, rfl, hall⟩ := hrel
    by_cases hlt : k < s.size
    · cases hok : okByte refusedA s[k]
      · have HB : Hid (R = false) := by
          have := holds_bad _ s k hlt hok
          rw [HR.out, authModel, this]; rfl
        have HO : Hid (okByte refusedA s[k] = false) := hok
        clear hok
        go_wp2_with (go_at_call 18; refine (authorityByte_any _ _).mono ?_; rintro e w' ⟨rfl, rfl⟩; rw [HO.out])
        go_ret
        exact ⟨ret_bool HB.out.symm, rfl⟩
      · have HN : Hid (holds refusedA (s.data.toList.take (k + 1)) = true) := by
          show _ = _
          rw [take_snoc s k hlt, holds_snoc, hall.out, hok]; rfl
        have HO : Hid (okByte refusedA s[k] = true) := hok
        clear hok
        go_wp2_with (go_at_call 18; refine (authorityByte_any _ _).mono ?_; rintro e w' ⟨rfl, rfl⟩; rw [HO.out])
        go_round
        case rel => exact ⟨k + 1, by omega, by go_num, HN⟩
        case measure => simp [intOf]; omega
    · have HA : Hid (holds refusedA s.data.toList = true) := by
        have := hall.out
        rw [List.take_of_length_le (by simp; omega)] at this
        exact this
      clear hall
      cases hE : endsAt s.data.toList
      · have HR2 : Hid (R = (brOk s.data.toList && runs s.data.toList (lastPos 91 s.data.toList s.data.toList.length) (s.data.toList.length + 1) 0 0)) := by
          show _ = _
          rw [HR.out, authModel, HA.out, hE]; rfl
        have hlast : s.size = 0 ∨ ∃ h : 0 < s.size, ((s[s.size - 1].toNat : Int) == 64) = false := by
          by_cases h0 : 0 < s.size
          · exact .inr ⟨h0, by rw [← endsAt_last s h0]; exact hE⟩
          · exact .inl (by omega)
        clear hE HR HA
        have HL := hlast
        clear hlast
        go_upto_region 6 with fail
        go_cut [35] from 25 to 35 (fun v wx => v = .bool false ∧ wx = w)
        case first =>
          rcases HL with h0 | ⟨h0, hne⟩
          · have h0' : ¬ 0 < s.size := by omega
            clear h0
            go_wp2_with fail
            go_meet
            exact ⟨rfl, rfl⟩
          · go_wp2_with fail
            go_meet
            exact ⟨rfl, rfl⟩
        case rest =>
          obtain ⟨rfl, hwc⟩ := hcut
          subst hwc
          clear HL
          go_wp2
          go_loop [4, 5, 6, 7, 8] (fun vo vc vpo vpc vi => ∃ (k o c : Nat) (po pc : Int), k ≤ s.size ∧ vi = .int .i64 k ∧ vo = .int .i64 o ∧ vc = .int .i64 c ∧ vpo = .int .i64 po ∧ vpc = .int .i64 pc ∧ o ≤ k ∧ c ≤ k ∧ -1 ≤ po ∧ po < (k : Int) ∧ -1 ≤ pc ∧ pc < (k : Int) ∧ Gath s.data.toList k o c po pc) (fun _ _ _ _ vi => s.size - (intOf vi).toNat)
          case atStart => exact ⟨0, 0, 0, -1, -1, Nat.zero_le _, rfl, rfl, rfl, rfl, rfl, by omega, by omega, by omega, by omega, by omega, by omega, ⟨rfl, rfl, rfl, rfl⟩⟩
          case round =>
            obtain ⟨k, o, c, po, pc, hk, rfl, rfl, rfl, rfl, rfl, ho, hc, hpo1, hpo2, hpc1, hpc2, hg⟩ := hrel
            by_cases hlt : k < s.size
            · cases h91 : ((s[k].toNat : Int) == 91)
              · cases h93 : ((s[k].toNat : Int) == 93)
                · have hg2 := gath_step s k o c po pc hlt hg _ _ h91 h93
                  go_wp2
                  go_round
                  case rel => exact ⟨k + 1, _, _, _, _, by omega, by go_num, rfl, rfl, rfl, rfl, by omega, by omega, by omega, by omega, by omega, by omega, hg2⟩
                  case measure => simp [intOf]; omega
                · have hg2 := gath_step s k o c po pc hlt hg _ _ h91 h93
                  go_wp2
                  go_round
                  case rel => exact ⟨k + 1, o, c + 1, po, (k : Int), by omega, by go_num, rfl, by go_num, rfl, rfl, by omega, by omega, by omega, by omega, by omega, by omega, hg2⟩
                  case measure => simp [intOf]; omega
              · have h93 : ((s[k].toNat : Int) == 93) = false := by simp at h91 ⊢; omega
                have hg2 := gath_step s k o c po pc hlt hg _ _ h91 h93
                go_wp2
                go_round
                case rel => exact ⟨k + 1, o + 1, c, (k : Int), pc, by omega, by go_num, by go_num, rfl, rfl, rfl, by omega, by omega, by omega, by omega, by omega, by omega, hg2⟩
                case measure => simp [intOf]; omega
            · obtain ⟨hbo, hpl⟩ := gath_end s o c po pc k (by omega) hg
              obtain ⟨nb, hnb⟩ : ∃ nb, nb = decide (o = 0 ∧ c = 0) := ⟨_, rfl⟩
              obtain ⟨op, hop⟩ : ∃ op, op = decide (o = 1 ∧ c = 1 ∧ po < pc) := ⟨_, rfl⟩
              rw [← hnb, ← hop] at hbo
              have HBO : Hid (brOk s.data.toList = (nb || op)) := hbo
              have HR4 : Hid (R = (brOk s.data.toList && runs s.data.toList po (s.size + 1) 0 0)) := by
                show _ = _
                rw [HR2.out, ← hpl, len_list]
              have HNB : Hid (nb = decide (o = 0 ∧ c = 0)) := hnb
              have HOP : Hid (op = decide (o = 1 ∧ c = 1 ∧ po < pc)) := hop
              clear hbo hpl hg HR2 hnb hop
              go_upto_region 21 with fail
              go_cut [9] from 56 to 61 (fun v wx => v = .bool nb ∧ wx = wc)
              case first =>
                rcases (show o = 0 ∨ ¬ o = 0 by omega) with h | h
                · subst h
                  rcases (show c = 0 ∨ ¬ c = 0 by omega) with h | h
                  · subst h
                    go_wp2_with fail
                    go_meet
                    exact ⟨by rw [HNB.out]; rfl, rfl⟩
                  · have hcb : ((c : Int) == 0) = false := by simp; omega
                    go_wp2_with fail
                    go_meet
                    exact ⟨by rw [HNB.out]; simp [h], rfl⟩
                · have hob : ((o : Int) == 0) = false := by simp; omega
                  go_wp2_with fail
                  go_meet
                  exact ⟨by rw [HNB.out]; simp [h], rfl⟩
              case rest =>
                obtain ⟨rfl, hwc⟩ := hcut
                subst hwc
                go_upto_region 22 with fail
                go_cut [10] from 62 to 72 (fun v wx => v = .bool op ∧ wx = wc)
                case first =>
                  rcases (show o = 1 ∨ ¬ o = 1 by omega) with h | h
                  · subst h
                    rcases (show c = 1 ∨ ¬ c = 1 by omega) with h | h
                    · subst h
                      by_cases hpp : po < pc
                      · go_wp2_with fail
                        go_meet
                        exact ⟨by rw [HOP.out]; simp [hpp], rfl⟩
                      · go_wp2_with fail
                        go_meet
                        exact ⟨by rw [HOP.out]; simp [hpp], rfl⟩
                    · have hcb : ((c : Int) == 1) = false := by simp; omega
                      go_wp2_with fail
                      go_meet
                      exact ⟨by rw [HOP.out]; simp [h], rfl⟩
                  · have hob : ((o : Int) == 1) = false := by simp; omega
                    go_wp2_with fail
                    go_meet
                    exact ⟨by rw [HOP.out]; simp [h], rfl⟩
                case rest =>
                  obtain ⟨rfl, hwc⟩ := hcut
                  subst hwc
                  clear HNB HOP
                  go_upto_region 23 with fail
                  go_cut [78] from 73 to 78 (fun v wx => v = .bool (!(nb || op)) ∧ wx = wc)
                  case first =>
                    cases nb <;> cases op <;> (go_wp2_with fail; go_meet; exact ⟨rfl, rfl⟩)
                  case rest =>
                    obtain ⟨rfl, hwc⟩ := hcut
                    subst hwc
                    cases hbad : (nb || op)
                    · have HB : Hid (R = false) := by
                        show _ = _
                        rw [HR4.out, HBO.out, hbad]; rfl
                      have hbad' : (!(nb || op)) = true := by rw [hbad]; rfl
                      clear hbad
                      go_wp2
                      go_ret
                      exact ⟨ret_bool HB.out.symm, rfl⟩
                    · have HR3 : Hid (R = runs s.data.toList po (s.size + 1) 0 0) := by
                        show _ = _
                        rw [HR4.out, HBO.out, hbad]; rfl
                      have hbad' : (!(nb || op)) = false := by rw [hbad]; rfl
                      clear hbad
                      clear HBO HR4
                      go_wp2
                      go_loop [11, 12] (fun vs vi => ∃ i st f : Nat, i + f = s.size + 1 ∧ st ≤ i ∧ vi = .int .i64 i ∧ vs = .int .i64 st ∧ Hid (R = runs s.data.toList po f i st)) (fun _ vi => s.size + 1 - (intOf vi).toNat)
                      case atStart => exact ⟨0, 0, s.size + 1, by omega, by omega, rfl, rfl, HR3⟩
                      case round =>
                        obtain ⟨i, st, f, hif, hst, rfl, rfl, hrun⟩ := hrel
                        by_cases hle : i ≤ s.size
                        · obtain ⟨f, rfl⟩ : ∃ f', f = f' + 1 := ⟨f - 1, by omega⟩
                          by_cases hlt : i < s.size
                          · cases e64 : ((s[i].toNat : Int) != 64)
                            · as_aux_lemma =>
                                have HSep : Hid (Sep s i) := sep_64 s i hlt e64
                                go_wp2_with fail
                                refine (count_58 _ _ (extract_le s st i hs)).mono ?_
                                rintro e w ⟨rfl, rfl⟩
                                obtain ⟨cl, hcl⟩ : ∃ cl, cl = cntB (s.extract st i).data.toList 58 := ⟨_, rfl⟩
                                rw [← hcl]
                                have Hcl : Hid (cl = (seg s.data.toList st i).count 58) := by
                                  show _ = _
                                  rw [hcl, seg_extract]
                                clear hcl
                                by_cases h8 : 8 < cl
                                · have HB : Hid (R = false) := by
                                    show _ = _
                                    rw [hrun.out]
                                    exact runs_bad1 s _ f i st cl HSep.out Hcl.out h8
                                  go_wp2
                                  go_ret
                                  exact ⟨ret_bool HB.out.symm, rfl⟩
                                · by_cases hp1 : (st : Int) ≤ po
                                  · by_cases hp2 : po < (i : Int)
                                    · obtain ⟨p, hp⟩ : ∃ p : Nat, po = p := ⟨po.toNat, by omega⟩
                                      subst hp
                                      go_wp2_with fail
                                      refine (count_37 _ _ (extract_le s st p hs)).mono ?_
                                      rintro e w ⟨rfl, rfl⟩
                                      obtain ⟨pl, hpl⟩ : ∃ pl, pl = cntB (s.extract st p).data.toList 37 := ⟨_, rfl⟩
                                      rw [← hpl]
                                      have Hpl : Hid (pl = (seg s.data.toList st (p : Int).toNat).count 37) := by
                                        show _ = _
                                        rw [hpl, seg_extract]; rfl
                                      clear hpl
                                      by_cases hpp : 0 < pl
                                      · have HB : Hid (R = false) := by
                                          show _ = _
                                          rw [hrun.out]
                                          exact runs_bad2 s _ f i st pl HSep.out hp1 hp2 Hpl.out hpp
                                        go_wp2
                                        go_ret
                                        exact ⟨ret_bool HB.out.symm, rfl⟩
                                      · have hno : Hid (¬ ((st : Int) ≤ (p : Int) ∧ (p : Int) < (i : Int) ∧ 0 < (seg s.data.toList st (p : Int).toNat).count 37)) := by
                                          rintro ⟨_, _, h⟩
                                          rw [← Hpl.out] at h
                                          exact hpp h
                                        have hb : ((i : Int) == (s.size : Int)) = false := by simp; omega
                                        have HN : Hid (R = runs s.data.toList (p : Int) f (i + 1) (i + 1)) := by
                                          show _ = _
                                          rw [hrun.out]
                                          exact runs_next s _ f i st HSep.out (by rw [← Hcl.out]; exact h8) hno.out (fun h => by omega)
                                        go_wp2
                                        go_round
                                        case rel => exact ⟨i + 1, i + 1, f, by omega, by omega, by go_num, by go_num, HN⟩
                                        case measure => simp [intOf]; omega
                                    · have hno : Hid (¬ ((st : Int) ≤ po ∧ po < (i : Int) ∧ 0 < (seg s.data.toList st po.toNat).count 37)) := by
                                        rintro ⟨_, h, _⟩
                                        exact hp2 h
                                      have hb : ((i : Int) == (s.size : Int)) = false := by simp; omega
                                      have HN : Hid (R = runs s.data.toList po f (i + 1) (i + 1)) := by
                                        show _ = _
                                        rw [hrun.out]
                                        exact runs_next s _ f i st HSep.out (by rw [← Hcl.out]; exact h8) hno.out (fun h => by omega)
                                      go_wp2
                                      go_round
                                      case rel => exact ⟨i + 1, i + 1, f, by omega, by omega, by go_num, by go_num, HN⟩
                                      case measure => simp [intOf]; omega
                                  · have hno : Hid (¬ ((st : Int) ≤ po ∧ po < (i : Int) ∧ 0 < (seg s.data.toList st po.toNat).count 37)) := by
                                      rintro ⟨h, _⟩
                                      exact hp1 h
                                    have hb : ((i : Int) == (s.size : Int)) = false := by simp; omega
                                    have HN : Hid (R = runs s.data.toList po f (i + 1) (i + 1)) := by
                                      show _ = _
                                      rw [hrun.out]
                                      exact runs_next s _ f i st HSep.out (by rw [← Hcl.out]; exact h8) hno.out (fun h => by omega)
                                    go_wp2
                                    go_round
                                    case rel => exact ⟨i + 1, i + 1, f, by omega, by omega, by go_num, by go_num, HN⟩
                                    case measure => simp [intOf]; omega
                            · cases e93 : ((s[i].toNat : Int) != 93)
                              · as_aux_lemma =>
                                  have HSep : Hid (Sep s i) := sep_93 s i hlt e93
                                  go_wp2_with fail
                                  refine (count_58 _ _ (extract_le s st i hs)).mono ?_
                                  rintro e w ⟨rfl, rfl⟩
                                  obtain ⟨cl, hcl⟩ : ∃ cl, cl = cntB (s.extract st i).data.toList 58 := ⟨_, rfl⟩
                                  rw [← hcl]
                                  have Hcl : Hid (cl = (seg s.data.toList st i).count 58) := by
                                    show _ = _
                                    rw [hcl, seg_extract]
                                  clear hcl
                                  by_cases h8 : 8 < cl
                                  · have HB : Hid (R = false) := by
                                      show _ = _
                                      rw [hrun.out]
                                      exact runs_bad1 s _ f i st cl HSep.out Hcl.out h8
                                    go_wp2
                                    go_ret
                                    exact ⟨ret_bool HB.out.symm, rfl⟩
                                  · by_cases hp1 : (st : Int) ≤ po
                                    · by_cases hp2 : po < (i : Int)
                                      · obtain ⟨p, hp⟩ : ∃ p : Nat, po = p := ⟨po.toNat, by omega⟩
                                        subst hp
                                        go_wp2_with fail
                                        refine (count_37 _ _ (extract_le s st p hs)).mono ?_
                                        rintro e w ⟨rfl, rfl⟩
                                        obtain ⟨pl, hpl⟩ : ∃ pl, pl = cntB (s.extract st p).data.toList 37 := ⟨_, rfl⟩
                                        rw [← hpl]
                                        have Hpl : Hid (pl = (seg s.data.toList st (p : Int).toNat).count 37) := by
                                          show _ = _
                                          rw [hpl, seg_extract]; rfl
                                        clear hpl
                                        by_cases hpp : 0 < pl
                                        · have HB : Hid (R = false) := by
                                            show _ = _
                                            rw [hrun.out]
                                            exact runs_bad2 s _ f i st pl HSep.out hp1 hp2 Hpl.out hpp
                                          go_wp2
                                          go_ret
                                          exact ⟨ret_bool HB.out.symm, rfl⟩
                                        · have hno : Hid (¬ ((st : Int) ≤ (p : Int) ∧ (p : Int) < (i : Int) ∧ 0 < (seg s.data.toList st (p : Int).toNat).count 37)) := by
                                            rintro ⟨_, _, h⟩
                                            rw [← Hpl.out] at h
                                            exact hpp h
                                          have hb : ((i : Int) == (s.size : Int)) = false := by simp; omega
                                          have HN : Hid (R = runs s.data.toList (p : Int) f (i + 1) (i + 1)) := by
                                            show _ = _
                                            rw [hrun.out]
                                            exact runs_next s _ f i st HSep.out (by rw [← Hcl.out]; exact h8) hno.out (fun h => by omega)
                                          go_wp2
                                          go_round
                                          case rel => exact ⟨i + 1, i + 1, f, by omega, by omega, by go_num, by go_num, HN⟩
                                          case measure => simp [intOf]; omega
                                      · have hno : Hid (¬ ((st : Int) ≤ po ∧ po < (i : Int) ∧ 0 < (seg s.data.toList st po.toNat).count 37)) := by
                                          rintro ⟨_, h, _⟩
                                          exact hp2 h
                                        have hb : ((i : Int) == (s.size : Int)) = false := by simp; omega
                                        have HN : Hid (R = runs s.data.toList po f (i + 1) (i + 1)) := by
                                          show _ = _
                                          rw [hrun.out]
                                          exact runs_next s _ f i st HSep.out (by rw [← Hcl.out]; exact h8) hno.out (fun h => by omega)
                                        go_wp2
                                        go_round
                                        case rel => exact ⟨i + 1, i + 1, f, by omega, by omega, by go_num, by go_num, HN⟩
                                        case measure => simp [intOf]; omega
                                    · have hno : Hid (¬ ((st : Int) ≤ po ∧ po < (i : Int) ∧ 0 < (seg s.data.toList st po.toNat).count 37)) := by
                                        rintro ⟨h, _⟩
                                        exact hp1 h
                                      have hb : ((i : Int) == (s.size : Int)) = false := by simp; omega
                                      have HN : Hid (R = runs s.data.toList po f (i + 1) (i + 1)) := by
                                        show _ = _
                                        rw [hrun.out]
                                        exact runs_next s _ f i st HSep.out (by rw [← Hcl.out]; exact h8) hno.out (fun h => by omega)
                                      go_wp2
                                      go_round
                                      case rel => exact ⟨i + 1, i + 1, f, by omega, by omega, by go_num, by go_num, HN⟩
                                      case measure => simp [intOf]; omega
                              · have HN : Hid (R = runs s.data.toList po f (i + 1) st) := by
                                  show _ = _
                                  rw [hrun.out]
                                  exact runs_on s po f i st hlt e64 e93
                                go_wp2
                                go_round
                                case rel => exact ⟨i + 1, st, f, by omega, by omega, by go_num, rfl, HN⟩
                                case measure => simp [intOf]; omega
                          · as_aux_lemma =>
                              have HSep : Hid (Sep s i) := sep_end s i hlt
                              go_wp2_with fail
                              refine (count_58 _ _ (extract_le s st i hs)).mono ?_
                              rintro e w ⟨rfl, rfl⟩
                              obtain ⟨cl, hcl⟩ : ∃ cl, cl = cntB (s.extract st i).data.toList 58 := ⟨_, rfl⟩
                              rw [← hcl]
                              have Hcl : Hid (cl = (seg s.data.toList st i).count 58) := by
                                show _ = _
                                rw [hcl, seg_extract]
                              clear hcl
                              by_cases h8 : 8 < cl
                              · have HB : Hid (R = false) := by
                                  show _ = _
                                  rw [hrun.out]
                                  exact runs_bad1 s _ f i st cl HSep.out Hcl.out h8
                                go_wp2
                                go_ret
                                exact ⟨ret_bool HB.out.symm, rfl⟩
                              · by_cases hp1 : (st : Int) ≤ po
                                · by_cases hp2 : po < (i : Int)
                                  · obtain ⟨p, hp⟩ : ∃ p : Nat, po = p := ⟨po.toNat, by omega⟩
                                    subst hp
                                    go_wp2_with fail
                                    refine (count_37 _ _ (extract_le s st p hs)).mono ?_
                                    rintro e w ⟨rfl, rfl⟩
                                    obtain ⟨pl, hpl⟩ : ∃ pl, pl = cntB (s.extract st p).data.toList 37 := ⟨_, rfl⟩
                                    rw [← hpl]
                                    have Hpl : Hid (pl = (seg s.data.toList st (p : Int).toNat).count 37) := by
                                      show _ = _
                                      rw [hpl, seg_extract]; rfl
                                    clear hpl
                                    by_cases hpp : 0 < pl
                                    · have HB : Hid (R = false) := by
                                        show _ = _
                                        rw [hrun.out]
                                        exact runs_bad2 s _ f i st pl HSep.out hp1 hp2 Hpl.out hpp
                                      go_wp2
                                      go_ret
                                      exact ⟨ret_bool HB.out.symm, rfl⟩
                                    · have hno : Hid (¬ ((st : Int) ≤ (p : Int) ∧ (p : Int) < (i : Int) ∧ 0 < (seg s.data.toList st (p : Int).toNat).count 37)) := by
                                        rintro ⟨_, _, h⟩
                                        rw [← Hpl.out] at h
                                        exact hpp h
                                      have hb : ((i : Int) == (s.size : Int)) = true := by simp; omega
                                      by_cases h1 : 1 < cl
                                      · have HB : Hid (R = false) := by
                                          show _ = _
                                          rw [hrun.out]
                                          exact runs_bad3 s _ f i st HSep.out (by omega) (.inl (by rw [← Hcl.out]; exact h1))
                                        go_wp2
                                        go_ret
                                        exact ⟨ret_bool HB.out.symm, rfl⟩
                                      · go_wp2_with fail
                                        refine (count_37 _ _ (extract_le s st i hs)).mono ?_
                                        rintro e w ⟨rfl, rfl⟩
                                        obtain ⟨ql, hql⟩ : ∃ ql, ql = cntB (s.extract st i).data.toList 37 := ⟨_, rfl⟩
                                        rw [← hql]
                                        have Hql : Hid (ql = (seg s.data.toList st i).count 37) := by
                                          show _ = _
                                          rw [hql, seg_extract]
                                        clear hql
                                        by_cases hq : 0 < ql
                                        · have HB : Hid (R = false) := by
                                            show _ = _
                                            rw [hrun.out]
                                            exact runs_bad3 s _ f i st HSep.out (by omega) (.inr (by rw [← Hql.out]; exact hq))
                                          go_wp2
                                          go_ret
                                          exact ⟨ret_bool HB.out.symm, rfl⟩
                                        · have HN : Hid (R = runs s.data.toList (p : Int) f (i + 1) (i + 1)) := by
                                            show _ = _
                                            rw [hrun.out]
                                            refine runs_next s _ f i st HSep.out (by rw [← Hcl.out]; exact h8) hno.out ?_
                                            rintro ⟨_, h | h⟩
                                            · rw [← Hcl.out] at h; exact h1 h
                                            · rw [← Hql.out] at h; exact hq h
                                          go_wp2
                                          go_round
                                          case rel => exact ⟨i + 1, i + 1, f, by omega, by omega, by go_num, by go_num, HN⟩
                                          case measure => simp [intOf]; omega
                                  · omega
                                · have hno : Hid (¬ ((st : Int) ≤ po ∧ po < (i : Int) ∧ 0 < (seg s.data.toList st po.toNat).count 37)) := by
                                    rintro ⟨h, _⟩
                                    exact hp1 h
                                  have hb : ((i : Int) == (s.size : Int)) = true := by simp; omega
                                  by_cases h1 : 1 < cl
                                  · have HB : Hid (R = false) := by
                                      show _ = _
                                      rw [hrun.out]
                                      exact runs_bad3 s _ f i st HSep.out (by omega) (.inl (by rw [← Hcl.out]; exact h1))
                                    go_wp2
                                    go_ret
                                    exact ⟨ret_bool HB.out.symm, rfl⟩
                                  · go_wp2_with fail
                                    refine (count_37 _ _ (extract_le s st i hs)).mono ?_
                                    rintro e w ⟨rfl, rfl⟩
                                    obtain ⟨ql, hql⟩ : ∃ ql, ql = cntB (s.extract st i).data.toList 37 := ⟨_, rfl⟩
                                    rw [← hql]
                                    have Hql : Hid (ql = (seg s.data.toList st i).count 37) := by
                                      show _ = _
                                      rw [hql, seg_extract]
                                    clear hql
                                    by_cases hq : 0 < ql
                                    · have HB : Hid (R = false) := by
                                        show _ = _
                                        rw [hrun.out]
                                        exact runs_bad3 s _ f i st HSep.out (by omega) (.inr (by rw [← Hql.out]; exact hq))
                                      go_wp2
                                      go_ret
                                      exact ⟨ret_bool HB.out.symm, rfl⟩
                                    · have HN : Hid (R = runs s.data.toList po f (i + 1) (i + 1)) := by
                                        show _ = _
                                        rw [hrun.out]
                                        refine runs_next s _ f i st HSep.out (by rw [← Hcl.out]; exact h8) hno.out ?_
                                        rintro ⟨_, h | h⟩
                                        · rw [← Hcl.out] at h; exact h1 h
                                        · rw [← Hql.out] at h; exact hq h
                                      go_wp2
                                      go_round
                                      case rel => exact ⟨i + 1, i + 1, f, by omega, by omega, by go_num, by go_num, HN⟩
                                      case measure => simp [intOf]; omega
                        · have HT : Hid (R = true) := by
                            show _ = _
                            obtain rfl : f = 0 := by omega
                            rw [hrun.out]; rfl
                          go_wp2
                          go_ret
                          exact ⟨ret_bool HT.out.symm, rfl⟩
      · have HB : Hid (R = false) := by
          show _ = _
          rw [HR.out, authModel, HA.out, hE]; rfl
        have h0 : 0 < s.size := by
          by_cases h0 : 0 < s.size
          · exact h0
          · rw [endsAt_empty s (by omega)] at hE; cases hE
        have hlast : ((s[s.size - 1].toNat : Int) == 64) = true := by rw [← endsAt_last s h0]; exact hE
        clear hE
        go_wp2
        go_ret
        exact ⟨ret_bool HB.out.symm, rfl⟩

end Go.Proofs.Qxb6602896a.Url
