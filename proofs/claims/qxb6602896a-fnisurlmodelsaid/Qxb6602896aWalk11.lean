/-
  Seat b6602896a: strings.IndexRune at the text of the three end bytes, for the rune that stands for a bad byte; strings.IndexAny at that text, for every string.
-/
import Derived.Test.Qxb6602896aWalk10
namespace Go.Proofs.Qxb6602896a.Url
open Go.RowKit

set_option maxHeartbeats 2000000 in
set_option maxRecDepth 1000000 in
theorem indexRune_error (w : World) :
    Calls Try.prog 46 #[.string { data := #[47, 63, 35] }, .int .i32 65533] w fun e w' => e = .returned (.int .i64 (-1)) ∧ Below w.heap.size w w' := by
  go_enter Try.func46, Try.ntmps46
  go_wp2
  go_loopg [5, 6] 3 (fun g _ _ wx => ∃ i : Nat, i + g = 3 ∧ wx = w.iter { data := #[47, 63, 35] } i)
  case atStart => exact ⟨0, by omega, rfl⟩
  case round =>
    obtain ⟨i, hig, rfl⟩ := hrel
    cases gk with
    | zero =>
      obtain rfl : i = 3 := by omega
      have hnx := run_next_end (P := Try.prog) w { data := #[47, 63, 35] } 3
      go_wp2
      go_ret
      exact ⟨rfl, (Below.refl _ w).alloc (Nat.le_refl _) _⟩
    | succ g =>
      rcases (show i = 0 ∨ i = 1 ∨ i = 2 by omega) with h | h | h
      · subst h
        have hnx := fun ty => run_next_ascii (P := Try.prog) w { data := #[47, 63, 35] } 0 ty (by decide) (by decide)
        go_wp2
        go_roundg g
        case measure => omega
        case rel => exact ⟨1, by omega, rfl⟩
      · subst h
        have hnx := fun ty => run_next_ascii (P := Try.prog) w { data := #[47, 63, 35] } 1 ty (by decide) (by decide)
        go_wp2
        go_roundg g
        case measure => omega
        case rel => exact ⟨2, by omega, rfl⟩
      · subst h
        have hnx := fun ty => run_next_ascii (P := Try.prog) w { data := #[47, 63, 35] } 2 ty (by decide) (by decide)
        go_wp2
        go_roundg g
        case measure => omega
        case rel => exact ⟨3, by omega, rfl⟩

end Go.Proofs.Qxb6602896a.Url
