/-
  The reference's number, world kept; cells of old blocks in worlds to come. No condition.
-/
import Derived.Test.YtphmklgbbpiafaaGreatRdA
namespace Go.Proofs.YtphmklgbbpiafaaGreat
open Go Go.RowKit
set_option linter.unusedVariables false
theorem num_still (A : Option Addr) (n c B : Nat) (xs : List UInt8) (w : World) (hn : n ≤ 8) (hs : Sl w B A n (bcs xs)) :
    Calls Tryz.prog 46 #[.slice A n c] w fun e w' => e = .returned (.int .u64 (Lib.beNat xs : Nat)) ∧ w' = w :=
  (num_sl A n c B xs w hn hs).mono fun e w' ⟨a, b⟩ => ⟨a, b.symm⟩
theorem low_alloc {w : World} {g i : Nat} {O : Obj} (hg : g < w.heap.size) : (w.alloc O).drew.cell? ⟨g, i, none⟩ = w.cell? ⟨g, i, none⟩ :=
  World.cell?_of_block (w := w) (Below.heap_alloc _ _ g hg)
theorem low_drew {w : World} {a : Addr} : w.drew.cell? a = w.cell? a := rfl
theorem low_below {B : Nat} {w w' : World} {g i : Nat} (h : Below B w w') (hg : g < B) : w'.cell? ⟨g, i, none⟩ = w.cell? ⟨g, i, none⟩ :=
  World.cell?_of_block (h.block g hg)
theorem set4_low {w : World} {b g i : Nat} {p q r s : Value} (hg : g ≠ b) : (set4 w b p q r s).cell? ⟨g, i, none⟩ = w.cell? ⟨g, i, none⟩ := by
  refine World.cell?_of_block ?_
  unfold set4
  rw [Below.heap_setCell _ _ _ _ hg, Below.heap_setCell _ _ _ _ hg, Below.heap_setCell _ _ _ _ hg, Below.heap_setCell _ _ _ _ hg]
end Go.Proofs.YtphmklgbbpiafaaGreat
