/-
  Seat b6602839a: a row of bytes that the call itself makes ('make([]byte, 0, n)', one byte appended at a time): what is carried from step to step.
-/
import Derived.Test.Qxb6602839aWalk2
import Derived.Laws.IdiomStrings
namespace Go.Proofs.Qxb6602839a.Cnt
open Go.RowKit

theorem Info5 : (Try.prog.info? 5).map (fun i => (i.zero, i.size, i.bytes)) = some (some (.int .u8 0), 1, 1) := by kernel_rfl

/-- The slice at block B, of capacity cap, holds the bytes acc; below B the world is as w was. -/
structure Row (w : World) (B cap : Nat) (acc : List UInt8) (wr : World) : Prop where
  own : wr.ownsRow B 5 1 (.slice (some ⟨B, 0, none⟩) acc.length cap) acc.length (Lib.byteCells acc)
  bel : Below B w wr

theorem Row.size {w : World} {B cap : Nat} {acc : List UInt8} {wr : World} (h : Row w B cap acc wr) : B < wr.heap.size :=
  (h.own.lt B rfl).2

theorem Row.push {w : World} {B cap : Nat} {acc : List UInt8} {wr w1 : World} {o : Obj} {c : UInt8} (h : Row w B cap acc wr)
    (h1 : w1.ownsRow B 5 1 (.slice (some ⟨B, 0, none⟩) (acc.length + 1) cap) (acc.length + 1) (Lib.byteCells acc ++ [Value.int .u8 (c.toNat : Int)]))
    (hg : (wr.alloc o).grownBy w1 (some B)) : Row w B cap (acc ++ [c]) w1 := by
  have hs := h.size
  refine ⟨?_, (h.bel.alloc (by omega) o).grown hg (by simp; omega) (by intro k hk; simp at hk; omega)⟩
  rw [cells_snoc]
  have e : (acc ++ [c]).length = acc.length + 1 := by simp
  rw [e]
  exact h1

theorem Row.cell {w : World} {B cap : Nat} {acc : List UInt8} {wr : World} (h : Row w B cap acc wr) :
    ∀ j (hj : j < acc.length), wr.cell? ((⟨B, 0, none⟩ : Addr).add j) = some (.int .u8 (acc[j].toNat : Int)) := by
  intro j hj
  apply h.own.cells rfl
  simp [Lib.byteCells, List.getElem?_eq_getElem hj]

theorem Row.string {w : World} {B cap : Nat} {acc : List UInt8} {wr : World} (h : Row w B cap acc wr) :
    (convert 24 9 (.slice (some ⟨B, 0, none⟩) acc.length cap)).run Try.prog wr = .ok (.string ⟨acc.toArray⟩) wr :=
  run_convert_bytes_back wr 24 9 5 ⟨B, 0, none⟩ cap acc Try.underlying24 Try.underlying5 Try.underlying9 h.cell

end Go.Proofs.Qxb6602839a.Cnt
