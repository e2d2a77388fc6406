/-
  What a reader of the reference's does, told as one contract. No condition.
-/
import Derived.Test.YtphmklgbbpiafaaGreatCutB
namespace Go.Proofs.YtphmklgbbpiafaaGreat
open Go Go.RowKit
set_option linter.unusedVariables false
/-- Function f reads these bytes as this layer; what it hands back lies below B0 or from B1 on. -/
def Srd (f : FuncId) (xs : List UInt8) (nums : List Nat) (data : List (List UInt8)) (pay : List UInt8) : Prop :=
  ∀ (A : Option Addr) (n c B0 B1 : Nat) (w : World), Sl w B0 A n (bcs xs) → B0 ≤ w.heap.size → B1 ≤ w.heap.size → n ≤ c →
    Calls Tryz.prog f #[.slice A n c] w fun e w' => ∃ v, e = .returned (.tuple #[v, .bool true, .bool true]) ∧ Below w.heap.size w w' ∧ LyrF w' w'.heap.size B0 B1 v nums data pay
end Go.Proofs.YtphmklgbbpiafaaGreat
