/-
  Seat b6603065a: the walks of zzHex, bytes.IndexByte and stringEnd.
-/
import Derived.Test.Qxb6603065aRows
import Derived.Test.Qxb6603065aPlain
import Derived.WalkKit
import Derived.WalkSpells
import Derived.WalkLawsBesides
import Derived.Lib.BytesEntry
import Derived.Lib.IndexLaws
namespace Go.Proofs.Qxb6603065a.Sj
open Go.RowKit

theorem ret_int {k : IntKind} {a b : Int} (h : a = b) : Ending.returned (.int k a) = .returned (.int k b) := by rw [h]

def hexI (n : Int) : Int := if n < 10 then 48 + n else 87 + n

set_option maxHeartbeats 400000 in
theorem hex_any (n : Int) (h0 : 0 ≤ n) (h1 : n < 16) (w : World) :
    Calls Try.prog 27 #[.int .u8 n] w fun e w' => e = .returned (.int .u8 (hexI n)) ∧ w' = w := by
  unfold hexI
  by_cases h : n < 10
  · go_enter Try.func27, Try.ntmps27
    go_wp2
    go_ret
    exact ⟨rfl, rfl⟩
  · go_enter Try.func27, Try.ntmps27
    go_wp2
    go_ret
    exact ⟨ret_int (by omega), rfl⟩

/-- The slice's cells hold the bytes B. -/
def Cells (w : World) (g o : Nat) (B : List UInt8) : Prop := ∀ j (h : j < B.length), w.cell? ⟨g, o + j, none⟩ = some (.int .u8 (B[j].toNat : Int))

theorem bytesOf_nat (B : List UInt8) : Lib.bytesOf (B.map fun b => (b.toNat : Int)) = B := by
  unfold Lib.bytesOf
  rw [List.map_map]
  conv => rhs; rw [← List.map_id B]
  apply List.map_congr_left
  intro b _
  simp

theorem run_index (w : World) (g o n c : Nat) (B : List UInt8) (hn : n = B.length) (hc : Cells w g o B) :
    (Extern.BytealgIndexByte.indexByte #[.slice (some ⟨g, o, none⟩) n c, .int .u8 34]).run Try.prog w = .ok (.int .i64 (Lib.indexByte B 34)) w := by
  have := Lib.run_indexByteSlice (P := Try.prog) w g o n c (B.map fun b => (b.toNat : Int)) (by simp [hn]) (fun i hi => by
    rw [hc i (by omega)]
    simp [List.getD, List.getElem?_eq_getElem (show i < B.length by omega)]) 34
  rw [bytesOf_nat] at this
  exact this

set_option maxHeartbeats 400000 in
theorem indexByte_any (g o n c : Nat) (B : List UInt8) (w : World) (hn : n = B.length) (hc : Cells w g o B) :
    Calls Try.prog 34 #[.slice (some ⟨g, o, none⟩) n c, .int .u8 34] w fun e w' => e = .returned (.int .i64 (Lib.indexByte B 34)) ∧ w' = w := by
  have HR : Hid ((Extern.BytealgIndexByte.indexByte #[.slice (some ⟨g, o, none⟩) n c, .int .u8 34]).run Try.prog w = .ok (.int .i64 (Lib.indexByte B 34)) w) := run_index w g o n c B hn hc
  clear hn hc
  go_enter Try.func34, Try.ntmps34
  go_wp2
  rw [run_callFunc_extern Try.func38 (by kernel_rfl) (by kernel_rfl) (by kernel_rfl) (e := Extern.BytealgIndexByte.indexByte) (by kernel_rfl), HR.out]
  simp only [Result.andThen]
  rw [Oper.upon_value]
  go_wp2
  go_ret
  exact ⟨rfl, rfl⟩

/-! ### stringEnd -/

theorem index_first : ∀ (a b : List UInt8), (34 : UInt8) ∉ a → Lib.indexByte (a ++ 34 :: b) 34 = (a.length : Int)
  | [], b, _ => rfl
  | c :: a, b, h => by
    have hc : (c == 34) = false := by
      simp only [beq_eq_false_iff_ne]
      intro e; apply h; simp [e]
    have ih := index_first a b (fun e => h (by simp [e]))
    rw [List.cons_append, Lib.indexByte, hc, ih]
    have : ((a.length : Int) == -1) = false := by simp
    rw [this]
    simp

/-- What the walk back over the backslashes meets. -/
def Back (D : List UInt8) (E T : Nat) : Prop := ∀ (m : Nat) (_ : m < E) , (m < T → D[E - 1 - m]? = some 92) ∧ (m = T → D[E - 1 - m]? ≠ some 92)

theorem back_of (D l r : List UInt8) (h : D = l ++ r) : Back D l.length (tr l) := by
  intro m hm
  have hg := tr_get l m hm
  have hi : l.length - 1 - m < l.length := by omega
  have e : D[l.length - 1 - m]? = some (l[l.length - 1 - m]'hi) := by
    rw [h, List.getElem?_append_left hi, List.getElem?_eq_getElem hi]
  rw [e]
  refine ⟨fun a => by rw [hg.1 a], fun a c => hg.2 a (Option.some.inj c)⟩

theorem tr_lt (P x : List UInt8) : tr (P ++ 34 :: x) ≤ x.length := by
  unfold tr
  rw [List.reverse_append, List.reverse_cons, List.append_assoc]
  have : ∀ a b : List UInt8, lead (a ++ 34 :: b) ≤ a.length := by
    intro a
    induction a with
    | nil => intro b; simp [lead]
    | cons c a ih =>
      intro b
      rw [List.cons_append, lead]
      have := ih b
      split
      · simp; omega
      · omega
  have := this x.reverse P.reverse
  simpa using this

/-- One round: from a unit's start the next quote is the closing one, or stands inside a unit. -/
theorem round_last (P Q D pre rest s : List UInt8) (hD : D = P ++ 34 :: (body s ++ 34 :: Q)) (hs : s = pre ++ rest) (h : (34 : UInt8) ∉ rest) (J : Nat) (hJ : J = P.length + 1 + (body pre).length) :
    ∃ N T : Nat, Lib.indexByte (D.drop J) 34 = (N : Int) ∧ Back D (J + N) T ∧ T % 2 = 0 ∧ J + N = P.length + 1 + (body s).length ∧ T + 1 ≤ J + N := by
  have e1 : D = (P ++ 34 :: body pre) ++ (body rest ++ 34 :: Q) := by rw [hD, hs, body_append]; simp
  have e2 : D = (P ++ 34 :: body s) ++ 34 :: Q := by rw [hD]; simp
  have l1 : (P ++ 34 :: body pre).length = J := by rw [hJ]; simp; omega
  refine ⟨(body rest).length, tr (P ++ 34 :: body s), ?_, ?_, tr_even P _ s rfl, ?_, ?_⟩
  · rw [e1, ← l1, List.drop_left]
    exact index_first _ _ (body_no rest h)
  · have := back_of D _ _ e2
    have l2 : (P ++ 34 :: body s).length = J + (body rest).length := by rw [hJ, hs, body_append]; simp; omega
    rw [l2] at this
    exact this
  · rw [hJ, hs, body_append]; simp; omega
  · have := tr_lt P (body s)
    have l2 : J + (body rest).length = P.length + 1 + (body s).length := by rw [hJ, hs, body_append]; simp; omega
    omega

theorem round_on (P Q D pre r1 r2 s : List UInt8) (hD : D = P ++ 34 :: (body s ++ 34 :: Q)) (hs : s = pre ++ (r1 ++ 34 :: r2)) (h : (34 : UInt8) ∉ r1) (J : Nat) (hJ : J = P.length + 1 + (body pre).length) :
    ∃ N T : Nat, Lib.indexByte (D.drop J) 34 = (N : Int) ∧ Back D (J + N) T ∧ T % 2 = 1 ∧ J + N + 1 = P.length + 1 + (body (pre ++ (r1 ++ [34]))).length ∧ T + 1 ≤ J + N ∧ (body (pre ++ (r1 ++ [34]))).length ≤ (body s).length := by
  have hq : body [34] = [92, 34] := by decide
  have hs2 : s = (pre ++ (r1 ++ [34])) ++ r2 := by rw [hs]; simp
  have eb : body (r1 ++ 34 :: r2) = (body r1 ++ [92]) ++ 34 :: body r2 := by
    have : r1 ++ 34 :: r2 = r1 ++ ([34] ++ r2) := by simp
    rw [this, body_append, body_append, hq]; simp
  have e1 : D = (P ++ 34 :: body pre) ++ ((body r1 ++ [92]) ++ 34 :: (body r2 ++ 34 :: Q)) := by rw [hD, hs, body_append, eb]; simp
  have e2 : D = (P ++ 34 :: (body (pre ++ r1) ++ [92])) ++ 34 :: (body r2 ++ 34 :: Q) := by rw [e1, body_append]; simp
  have l1 : (P ++ 34 :: body pre).length = J := by rw [hJ]; simp; omega
  have l2 : (P ++ 34 :: (body (pre ++ r1) ++ [92])).length = J + ((body r1).length + 1) := by rw [hJ, body_append]; simp; omega
  refine ⟨(body r1).length + 1, tr (P ++ 34 :: (body (pre ++ r1) ++ [92])), ?_, ?_, tr_odd P _, ?_, ?_, ?_⟩
  · rw [e1, ← l1, List.drop_left]
    have hno : (34 : UInt8) ∉ body r1 ++ [92] := by
      rw [List.mem_append]
      rintro (e | e)
      · exact body_no r1 h e
      · simp at e
    have := index_first (body r1 ++ [92]) (body r2 ++ 34 :: Q) hno
    rw [this]; simp
  · have := back_of D _ _ e2
    rw [l2] at this
    exact this
  · rw [hJ, body_append, body_append, hq]; simp; omega
  · have := tr_lt P (body (pre ++ r1) ++ [92])
    have l3 : (body (pre ++ r1) ++ [92]).length = (body pre).length + (body r1).length + 1 := by rw [body_append]; simp; omega
    omega
  · rw [hs2, body_append (pre ++ (r1 ++ [34])) r2]; simp

theorem cells_drop (w : World) (g J : Nat) (D : List UInt8) (h : Cells w g 0 D) : Cells w g J (D.drop J) := by
  intro j hj
  have hj' : J + j < D.length := by simp at hj; omega
  have := h (J + j) hj'
  rw [Nat.zero_add] at this
  rw [this]
  simp

set_option maxHeartbeats 2000000 in
theorem stringEnd_any (P s Q D : List UInt8) (g cap : Nat) (w : World) (hD : D = P ++ 34 :: (body s ++ 34 :: Q)) (hcap : D.length ≤ cap) (hlen : D.length ≤ 1048576) (hcells : Cells w g 0 D) :
    Calls Try.prog 26 #[.slice (some ⟨g, 0, none⟩) D.length cap, .int .i64 P.length] w fun e w' => e = .returned (.int .i64 ((P.length + (body s).length + 2 : Nat) : Int)) ∧ w' = w := by
  have hl : P.length + (body s).length + 2 ≤ D.length := by rw [hD]; simp; omega
  have HD : Hid (D = P ++ 34 :: (body s ++ 34 :: Q)) := hD
  have HC : Hid (Cells w g 0 D) := hcells
  clear hD hcells
  go_enter Try.func26, Try.ntmps26
  go_wp2
  go_loop [5, 6] (fun vj _ => ∃ (J : Nat) (pre rest : List UInt8), vj = .int .i64 (J : Int) ∧ Hid (J = P.length + 1 + (body pre).length) ∧ Hid (s = pre ++ rest) ∧ J ≤ P.length + 1 + (body s).length) (fun vj _ => D.length - (intOf vj).toNat)
  case atStart => exact ⟨P.length + 1, [], s, by go_num, rfl, rfl, by omega⟩
  case round =>
    obtain ⟨J, pre, rest, rfl, HJ, hsr, hJb⟩ := hrel
    have hcx := cells_drop w g J D HC.out
    have HCX : Hid (Cells w g J (D.drop J)) := hcx
    clear hcx
    by_cases h34 : (34 : UInt8) ∈ rest
    · obtain ⟨r1, r2, hr, hno⟩ := split_quote rest h34
      obtain ⟨N, T, hN, hT, hpar, hJN, hT1, hle⟩ := round_on P Q D pre r1 r2 s HD.out (by rw [hsr.out, hr]) hno J HJ.out
      have HN : Hid (Lib.indexByte (D.drop J) 34 = (N : Int)) := hN
      have HT : Hid (Back D (J + N) T) := hT
      have HP : Hid (J + N + 1 = P.length + 1 + (body (pre ++ (r1 ++ [34]))).length) := hJN
      have HS : Hid (s = (pre ++ (r1 ++ [34])) ++ r2) := by show _ = _; rw [hsr.out, hr]; simp
      have hJN1 : J + N + 1 ≤ P.length + 1 + (body s).length := by omega
      have hPar : Hid (T % 2 = 1) := hpar
      clear hN hT hJN hr hno h34 hpar
      go_wp2_with fail
      refine (indexByte_any g J _ _ (D.drop J) _ (by simp) HCX.out).mono ?_
      rintro e w ⟨rfl, rfl⟩
      rw [HN.out]
      go_wp2
      go_loop [6] (fun vk => ∃ K m : Nat, K + 1 + m = J + N ∧ m ≤ T ∧ vk = .int .i64 ((K : Int) + 1)) (fun vk => (intOf vk).toNat)
      case atStart => exact ⟨J + N - 1, 0, by omega, by omega, by go_num⟩
      case round =>
        obtain ⟨K, m, hKm, hmT, rfl⟩ := hrel
        have hKm1 : K + 1 + m ≤ J + N := by omega
        have hKm2 : J + N ≤ K + 1 + m := by omega
        clear hKm
        have hKD : K < D.length := by omega
        have hcell : w.cell? ⟨g, K, none⟩ = some (.int .u8 (D[K].toNat : Int)) := by
          have := HC.out K hKD
          simpa using this
        by_cases hm : m < T
        · have h92 : ((D[K].toNat : Int) == 92) = true := by
            have e := (HT.out m (by omega)).1 hm
            have e2 : J + N - 1 - m = K := by omega
            rw [e2, List.getElem?_eq_getElem hKD] at e
            rw [Option.some.inj e]; rfl
          go_wp2
          go_round
          case rel => exact ⟨K - 1, m + 1, by omega, by omega, by go_num⟩
          case measure => simp [intOf]
        · have h92 : ((D[K].toNat : Int) == 92) = false := by
            have e := (HT.out m (by omega)).2 (by omega)
            have e2 : J + N - 1 - m = K := by omega
            rw [e2, List.getElem?_eq_getElem hKD] at e
            cases h : ((D[K].toNat : Int) == 92)
            · rfl
            · exfalso; apply e; congr 1; apply UInt8.toNat_inj.1; simp at h; simp; omega
          have hpar2 : (((J : Int) + (N : Int) - ((K : Int) + 1)) % 2 == 0) = false := by
            have := hPar.out
            simp; omega
          go_wp2
          go_round
          case rel => exact ⟨J + N + 1, pre ++ (r1 ++ [34]), r2, by go_num, HP, HS, hJN1⟩
          case measure => simp [intOf]; omega
    · obtain ⟨N, T, hN, hT, hpar, hJN, hT1⟩ := round_last P Q D pre rest s HD.out hsr.out h34 J HJ.out
      have HN : Hid (Lib.indexByte (D.drop J) 34 = (N : Int)) := hN
      have HT : Hid (Back D (J + N) T) := hT
      have HP : Hid (J + N = P.length + 1 + (body s).length) := hJN
      have hJN1 : J + N ≤ P.length + 1 + (body s).length := by omega
      have hPar : Hid (T % 2 = 0) := hpar
      clear hN hT hJN hpar
      go_wp2_with fail
      refine (indexByte_any g J _ _ (D.drop J) _ (by simp) HCX.out).mono ?_
      rintro e w ⟨rfl, rfl⟩
      rw [HN.out]
      go_wp2
      go_loop [6] (fun vk => ∃ K m : Nat, K + 1 + m = J + N ∧ m ≤ T ∧ vk = .int .i64 ((K : Int) + 1)) (fun vk => (intOf vk).toNat)
      case atStart => exact ⟨J + N - 1, 0, by omega, by omega, by go_num⟩
      case round =>
        obtain ⟨K, m, hKm, hmT, rfl⟩ := hrel
        have hKm1 : K + 1 + m ≤ J + N := by omega
        have hKm2 : J + N ≤ K + 1 + m := by omega
        clear hKm
        have hKD : K < D.length := by omega
        have hcell : w.cell? ⟨g, K, none⟩ = some (.int .u8 (D[K].toNat : Int)) := by
          have := HC.out K hKD
          simpa using this
        by_cases hm : m < T
        · have h92 : ((D[K].toNat : Int) == 92) = true := by
            have e := (HT.out m (by omega)).1 hm
            have e2 : J + N - 1 - m = K := by omega
            rw [e2, List.getElem?_eq_getElem hKD] at e
            rw [Option.some.inj e]; rfl
          go_wp2
          go_round
          case rel => exact ⟨K - 1, m + 1, by omega, by omega, by go_num⟩
          case measure => simp [intOf]
        · have h92 : ((D[K].toNat : Int) == 92) = false := by
            have e := (HT.out m (by omega)).2 (by omega)
            have e2 : J + N - 1 - m = K := by omega
            rw [e2, List.getElem?_eq_getElem hKD] at e
            cases h : ((D[K].toNat : Int) == 92)
            · rfl
            · exfalso; apply e; congr 1; apply UInt8.toNat_inj.1; simp at h; simp; omega
          have hpar2 : (((J : Int) + (N : Int) - ((K : Int) + 1)) % 2 == 0) = true := by
            have := hPar.out
            simp; omega
          go_wp2
          go_ret
          exact ⟨ret_int (by have := HP.out; omega), rfl⟩

set_option maxHeartbeats 400000 in
theorem zzStringEnd_any (P s Q D : List UInt8) (g cap : Nat) (w : World) (hD : D = P ++ 34 :: (body s ++ 34 :: Q)) (hcap : D.length ≤ cap) (hlen : D.length ≤ 1048576) (hcells : Cells w g 0 D) :
    Calls Try.prog 16 #[.slice (some ⟨g, 0, none⟩) D.length cap, .int .i64 P.length] w fun e w' => e = .returned (.int .i64 ((P.length + (body s).length + 2 : Nat) : Int)) ∧ w' = w := by
  have H : Hid (Calls Try.prog 26 #[.slice (some ⟨g, 0, none⟩) D.length cap, .int .i64 P.length] w fun e w' => e = .returned (.int .i64 ((P.length + (body s).length + 2 : Nat) : Int)) ∧ w' = w) := stringEnd_any P s Q D g cap w hD hcap hlen hcells
  clear hD hcap hlen hcells
  go_enter Try.func16, Try.ntmps16
  go_wp2_with fail
  refine H.out.mono ?_
  rintro e w ⟨rfl, rfl⟩
  go_wp2
  go_ret
  exact ⟨rfl, rfl⟩

end Go.Proofs.Qxb6603065a.Sj
