/-
  Seat b6603065a: the walk of the law's own quoting.
-/
import Derived.Test.Qxb6603065aWalk1
import Derived.Lib.UnsafeStr
namespace Go.Proofs.Qxb6603065a.Sj
open Go.RowKit

theorem Info5 : (Try.prog.info? 5).map (fun i => (i.zero, i.size, i.bytes)) = some (some (.int .u8 0), 1, 1) := by kernel_rfl

/-- The slice at block B, of capacity cap, holds the bytes acc; below B0 the world is as w was. -/
structure Row (w : World) (B0 B cap : Nat) (acc : List UInt8) (wr : World) : Prop where
  own : wr.ownsRow B0 5 1 (.slice (some ⟨B, 0, none⟩) acc.length cap) acc.length (Lib.byteCells acc)
  bel : Below B0 w wr
  le : B0 ≤ B

theorem Row.size {w : World} {B0 B cap : Nat} {acc : List UInt8} {wr : World} (h : Row w B0 B cap acc wr) : B < wr.heap.size :=
  (h.own.lt B rfl).2

theorem Row.pushes {w : World} {B0 B cap : Nat} {acc : List UInt8} {wr w1 : World} (h : Row w B0 B cap acc wr) (l : List UInt8) (m : Nat) (hm : m = l.length) (news : List Value) (hn : news = Lib.byteCells l)
    {wa : World} (hwa : Below B0 wr wa) (h1 : w1.ownsRow B0 5 1 (.slice (some ⟨B, 0, none⟩) (acc.length + m) cap) (acc.length + m) (Lib.byteCells acc ++ news))
    (hg : wa.grownBy w1 (some B)) : Row w B0 B cap (acc ++ l) w1 := by
  have hs := h.size
  subst hm hn
  refine ⟨?_, (h.bel.trans hwa).grown hg (by have := hwa.size; have := h.le; omega) (by intro k hk; have := h.le; simp at hk; omega), h.le⟩
  rw [Lib.byteCells_append, List.length_append]
  exact h1

theorem Row.cell {w : World} {B0 B cap : Nat} {acc : List UInt8} {wr : World} (h : Row w B0 B cap acc wr) : Cells wr B 0 acc := by
  intro j hj
  have := h.own.cells rfl j (.int .u8 (acc[j].toNat : Int)) (by simp [Lib.byteCells, List.getElem?_eq_getElem hj])
  rw [Addr.add_lit] at this
  exact this

/-- A slice that came in: its bytes. -/
def Came (w : World) (a : Option Addr) (len cap : Nat) (S : List UInt8) : Prop :=
  S.length = len ∧ len ≤ cap ∧ (0 < len → ∃ b o, a = some ⟨b, o, none⟩ ∧ b < w.heap.size ∧ Cells w b o S)

theorem take_snoc (S : List UInt8) (k : Nat) (h : k < S.length) : S.take (k + 1) = S.take k ++ [S[k]] := List.take_succ_eq_append_getElem h

theorem body_snoc (S : List UInt8) (k : Nat) (h : k < S.length) : body (S.take (k + 1)) = body (S.take k) ++ esc1 S[k] := by
  rw [take_snoc S k h, body_append]
  simp [body]

theorem hex_val0 : ∀ b : Fin 32, ((hex ((UInt8.ofNat b.val) >>> 4)).toNat : Int) = hexI ((b.val : Int) / 16) ∧ ((hex ((UInt8.ofNat b.val) &&& 15)).toNat : Int) = hexI ((b.val : Int) % 16) := by decide

theorem hex_val (b : UInt8) (h : b.toNat < 32) : ((hex (b >>> 4)).toNat : Int) = hexI ((b.toNat : Int) / 16) ∧ ((hex (b &&& 15)).toNat : Int) = hexI ((b.toNat : Int) % 16) := by
  have := hex_val0 ⟨b.toNat, h⟩
  simpa using this

theorem esc_quote (c : UInt8) (h : ((c.toNat : Int) == 34) = true ∨ ((c.toNat : Int) == 92) = true) : esc1 c = [92, c] := by
  unfold esc1
  rw [if_pos]
  rcases h with h | h
  · left; apply UInt8.toNat_inj.1; simp at h; simp; omega
  · right; apply UInt8.toNat_inj.1; simp at h; simp; omega

theorem esc_ne (c : UInt8) (h34 : ((c.toNat : Int) == 34) = false) (h92 : ((c.toNat : Int) == 92) = false) : ¬ (c = 34 ∨ c = 92) := by
  rintro (e | e)
  · rw [e] at h34; simp at h34
  · rw [e] at h92; simp at h92

theorem esc_ctl (c : UInt8) (h34 : ((c.toNat : Int) == 34) = false) (h92 : ((c.toNat : Int) == 92) = false) (h32 : (c.toNat : Int) < 32) : esc1 c = [92, 117, 48, 48, hex (c >>> 4), hex (c &&& 15)] := by
  unfold esc1
  rw [if_neg (esc_ne c h34 h92), if_pos (by omega)]

theorem esc_plain (c : UInt8) (h34 : ((c.toNat : Int) == 34) = false) (h92 : ((c.toNat : Int) == 92) = false) (h32 : ¬ (c.toNat : Int) < 32) : esc1 c = [c] := by
  unfold esc1
  rw [if_neg (esc_ne c h34 h92), if_neg (by omega)]

theorem two_new (w : World) (x y : Value) (t : TypeId) : ∀ j u, [x, y][j]? = some u → (w.alloc (.cells #[x, y] t)).cell? ((⟨w.heap.size, 0, none⟩ : Addr).add j) = some u := by
  intro j u hj
  match j, hj with
  | 0, hj => simp at hj; subst hj; simp [Addr.add]
  | 1, hj => simp at hj; subst hj; simp [Addr.add]

theorem six_new (w : World) (a b c d x y : Value) (t : TypeId) : ∀ j u, [a, b, c, d, x, y][j]? = some u → (w.alloc (.cells #[a, b, c, d, x, y] t)).cell? ((⟨w.heap.size, 0, none⟩ : Addr).add j) = some u := by
  intro j u hj
  match j, hj with
  | 0, hj => simp at hj; subst hj; simp [Addr.add]
  | 1, hj => simp at hj; subst hj; simp [Addr.add]
  | 2, hj => simp at hj; subst hj; simp [Addr.add]
  | 3, hj => simp at hj; subst hj; simp [Addr.add]
  | 4, hj => simp at hj; subst hj; simp [Addr.add]
  | 5, hj => simp at hj; subst hj; simp [Addr.add]

theorem acc_step (S acc : List UInt8) (k : Nat) (e : List UInt8) (hacc : acc = 34 :: body (S.take k)) (hb : body (S.take (k + 1)) = body (S.take k) ++ e) : acc ++ e = 34 :: body (S.take (k + 1)) := by
  rw [hb, hacc]; rfl

set_option maxHeartbeats 2000000 in
theorem quote_any (a : Option Addr) (len cap : Nat) (S : List UInt8) (w : World) (hC : Came w a len cap S) (hlen : len ≤ 65536) :
    Calls Try.prog 18 #[.slice a len cap] w fun e w' => e = .returned (.slice (some ⟨w.heap.size, 0, none⟩) (quote S).length (6 * len + 2)) ∧ Row w w.heap.size w.heap.size (6 * len + 2) (quote S) w' := by
  obtain ⟨hS, hlc, hcells⟩ := hC
  obtain ⟨i0, hi, hz0, hz1, hz2⟩ := info_parts Info5
  have HS : Hid (S.length = len) := hS
  have HCells : Hid (0 < len → ∃ b o, a = some ⟨b, o, none⟩ ∧ b < w.heap.size ∧ Cells w b o S) := hcells
  clear hS hcells
  go_enter Try.func18, Try.ntmps18
  go_wp2_with (first
    | (at_make; refine wpList_make_own _ rfl _ _ 22 rfl w.heap.size 5 i0 (.int .u8 0) 1 Try.underlying22 hi hz0 hz1 .i64 .i64 _ (6 * len + 2) rfl rfl (by omega) (by rw [hz2]; omega) (by unfold maxLen; omega) (Nat.le_refl _) ?_; intro w0 hown0 hgrow0)
    | (at_builtin; refine wpList_append_fits _ rfl (.tmp 11) (.tmp 12) 22 rfl w.heap.size 5 i0 1 Try.underlying22 hi hz1 w.heap.size 0 (6 * len + 2) [] rfl (hown0.alloc _) ⟨w0.heap.size, 0, none⟩ 1 1 [.int .u8 34] rfl rfl (cell_one_new _ _ _) (ints_oneCell .u8 [34]) (by omega) ?_; intro w1 hown1 hgrow1))
  have hR0 : Row w w.heap.size w.heap.size (6 * len + 2) [34] w1 :=
    ⟨hown1, (((Below.refl _ w).grown hgrow0 (Nat.le_refl _) (by intro k hk; cases hk)).alloc hgrow0.size _).grown hgrow1 (by have := hgrow0.size; simp; omega) (by intro k hk; simp at hk; omega), Nat.le_refl _⟩
  clear hown1 hgrow1 hown0 hgrow0
  go_loopw [3, 4] (fun q i wr => ∃ (k : Nat) (acc : List UInt8), k ≤ len ∧ i = .int .i64 k ∧ q = .slice (some ⟨w.heap.size, 0, none⟩) acc.length (6 * len + 2) ∧ Row w w.heap.size w.heap.size (6 * len + 2) acc wr ∧ Hid (acc = 34 :: body (S.take k)) ∧ acc.length ≤ 6 * k + 1) (fun _ i _ => len - (intOf i).toNat)
  case atStart => exact ⟨0, [34], Nat.zero_le _, rfl, rfl, hR0, rfl, Nat.le_refl _⟩
  case round =>
    obtain ⟨k, acc, hk, rfl, rfl, hR, hacc, hal⟩ := hrel
    have hsz := hR.size
    by_cases hlt : k < len
    · obtain ⟨b, o, hab, hbw, hcl⟩ := HCells.out (by omega)
      subst hab
      have hkS : k < S.length := by rw [HS.out]; exact hlt
      have hcell : wr.cell? ⟨b, o + k, none⟩ = some (.int .u8 (S[k].toNat : Int)) := (hR.bel.cell (p := ⟨b, o + k, none⟩) hbw).trans (hcl k hkS)
      have HB : Hid (body (S.take (k + 1)) = body (S.take k) ++ esc1 S[k]) := body_snoc S k hkS
      clear hcl
      have hb256 : S[k].toNat < 256 := S[k].toNat_lt
      generalize hc : S[k] = c at *
      have Hc : Hid (S[k] = c) := hc
      clear hc
      cases h34 : ((c.toNat : Int) == 34)
      · cases h92 : ((c.toNat : Int) == 92)
        · by_cases h32 : (c.toNat : Int) < 32
          · go_wp2_with fail
            refine (hex_any _ (by omega) (by omega) _).mono ?_
            rintro e w2 ⟨rfl, rfl⟩
            obtain ⟨g1, hg1⟩ : ∃ g1, g1 = hexI ((c.toNat : Int) / 16) := ⟨_, rfl⟩
            rw [← hg1]
            have Hg1 : Hid (g1 = hexI ((c.toNat : Int) / 16)) := hg1
            clear hg1
            go_wp2_with fail
            refine (hex_any _ (by omega) (by omega) _).mono ?_
            rintro e w2 ⟨rfl, rfl⟩
            obtain ⟨g2, hg2⟩ : ∃ g2, g2 = hexI ((c.toNat : Int) % 16) := ⟨_, rfl⟩
            rw [← hg2]
            have Hg2 : Hid (g2 = hexI ((c.toNat : Int) % 16)) := hg2
            clear hg2
            have HE : Hid (acc ++ [92, 117, 48, 48, hex (c >>> 4), hex (c &&& 15)] = 34 :: body (S.take (k + 1))) := acc_step S acc k _ hacc.out (by rw [HB.out, esc_ctl c h34 h92 h32])
            have HNews : Hid (([.int .u8 92, .int .u8 117, .int .u8 48, .int .u8 48, .int .u8 g1, .int .u8 g2] : List Value) = Lib.byteCells [92, 117, 48, 48, hex (c >>> 4), hex (c &&& 15)]) := by
              have hv := hex_val c (by omega)
              show _ = _
              rw [Hg1.out, Hg2.out, ← hv.1, ← hv.2]
              rfl
            go_wp2_with (at_builtin; refine wpList_append_fits _ rfl (.tmp 36) (.tmp 43) 22 rfl w.heap.size 5 i0 1 Try.underlying22 hi hz1 w.heap.size acc.length (6 * len + 2) _ rfl (hR.own.alloc _) ⟨w2.heap.size, 0, none⟩ 6 6 [.int .u8 92, .int .u8 117, .int .u8 48, .int .u8 48, .int .u8 g1, .int .u8 g2] rfl rfl (six_new _ _ _ _ _ _ _ _) (ints_oneCell .u8 [92, 117, 48, 48, g1, g2]) (by omega) ?_; intro w3 hown3 hgrow3)
            have hR2 := hR.pushes [92, 117, 48, 48, hex (c >>> 4), hex (c &&& 15)] 6 rfl _ HNews.out ((Below.refl _ _).alloc (by omega) _) hown3 hgrow3
            go_roundw
            case rel => exact ⟨k + 1, acc ++ [92, 117, 48, 48, hex (c >>> 4), hex (c &&& 15)], by omega, by go_num, by simp, hR2, HE, by simp; omega⟩
            case measure => simp [intOf]; omega
          · have HE : Hid (acc ++ [c] = 34 :: body (S.take (k + 1))) := acc_step S acc k _ hacc.out (by rw [HB.out, esc_plain c h34 h92 h32])
            go_wp2_with (at_builtin; refine wpList_append_fits _ rfl (.tmp 45) (.tmp 47) 22 rfl w.heap.size 5 i0 1 Try.underlying22 hi hz1 w.heap.size acc.length (6 * len + 2) _ rfl (hR.own.alloc _) ⟨wr.heap.size, 0, none⟩ 1 1 [.int .u8 (c.toNat : Int)] rfl rfl (cell_one_new _ _ _) (ints_oneCell .u8 [(c.toNat : Int)]) (by omega) ?_; intro w3 hown3 hgrow3)
            have hR2 := hR.pushes [c] 1 rfl _ rfl ((Below.refl _ _).alloc (by omega) _) hown3 hgrow3
            go_roundw
            case rel => exact ⟨k + 1, acc ++ [c], by omega, by go_num, by simp, hR2, HE, by simp; omega⟩
            case measure => simp [intOf]; omega
        · have HE : Hid (acc ++ [92, c] = 34 :: body (S.take (k + 1))) := acc_step S acc k _ hacc.out (by rw [HB.out, esc_quote c (.inr h92)])
          go_wp2_with (at_builtin; refine wpList_append_fits _ rfl (.tmp 30) (.tmp 32) 22 rfl w.heap.size 5 i0 1 Try.underlying22 hi hz1 w.heap.size acc.length (6 * len + 2) _ rfl (hR.own.alloc _) ⟨wr.heap.size, 0, none⟩ 2 2 [.int .u8 92, .int .u8 (c.toNat : Int)] rfl rfl (two_new _ _ _ _) (ints_oneCell .u8 [92, (c.toNat : Int)]) (by omega) ?_; intro w3 hown3 hgrow3)
          have hR2 := hR.pushes [92, c] 2 rfl _ rfl ((Below.refl _ _).alloc (by omega) _) hown3 hgrow3
          go_roundw
          case rel => exact ⟨k + 1, acc ++ [92, c], by omega, by go_num, by simp, hR2, HE, by simp; omega⟩
          case measure => simp [intOf]; omega
      · have HE : Hid (acc ++ [92, c] = 34 :: body (S.take (k + 1))) := acc_step S acc k _ hacc.out (by rw [HB.out, esc_quote c (.inl h34)])
        go_wp2_with (at_builtin; refine wpList_append_fits _ rfl (.tmp 30) (.tmp 32) 22 rfl w.heap.size 5 i0 1 Try.underlying22 hi hz1 w.heap.size acc.length (6 * len + 2) _ rfl (hR.own.alloc _) ⟨wr.heap.size, 0, none⟩ 2 2 [.int .u8 92, .int .u8 (c.toNat : Int)] rfl rfl (two_new _ _ _ _) (ints_oneCell .u8 [92, (c.toNat : Int)]) (by omega) ?_; intro w3 hown3 hgrow3)
        have hR2 := hR.pushes [92, c] 2 rfl _ rfl ((Below.refl _ _).alloc (by omega) _) hown3 hgrow3
        go_roundw
        case rel => exact ⟨k + 1, acc ++ [92, c], by omega, by go_num, by simp, hR2, HE, by simp; omega⟩
        case measure => simp [intOf]; omega
    · have HE : Hid (acc ++ [34] = quote S) := by
        show _ = _
        rw [hacc.out, List.take_of_length_le (by rw [HS.out]; omega)]
        rfl
      have HL : Hid ((quote S).length = acc.length + 1) := by
        show _ = _
        rw [← HE.out]; simp
      go_wp2_with (at_builtin; refine wpList_append_fits _ rfl (.tmp 49) (.tmp 50) 22 rfl w.heap.size 5 i0 1 Try.underlying22 hi hz1 w.heap.size acc.length (6 * len + 2) _ rfl (hR.own.alloc _) ⟨wr.heap.size, 0, none⟩ 1 1 [.int .u8 34] rfl rfl (cell_one_new _ _ _) (ints_oneCell .u8 [34]) (by omega) ?_; intro w3 hown3 hgrow3)
      have hR2 := hR.pushes [34] 1 rfl _ rfl ((Below.refl _ _).alloc (by omega) _) hown3 hgrow3
      go_ret
      rw [HE.out] at hR2
      refine ⟨?_, hR2⟩
      rw [HL.out]
      rfl

end Go.Proofs.Qxb6603065a.Sj
