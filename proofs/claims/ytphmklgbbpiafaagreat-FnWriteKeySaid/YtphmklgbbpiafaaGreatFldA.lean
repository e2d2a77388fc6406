/-
  Layers with byte lists among their own fields. No condition.
-/
import Derived.Test.YtphmklgbbpiafaaGreatDecA
namespace Go.Proofs.YtphmklgbbpiafaaGreat
open Go Go.RowKit
/-- The fields are these, one of them a slice that holds d. -/
def Fld.dat (mk : Option Addr → Nat → List Value) (d : List UInt8) : Fld :=
  ⟨fun w B fs => ∃ Q cQ, fs = mk Q cQ ∧ Sl w B Q d.length (bcs d), fun _ _ _ _ ⟨Q, cQ, h1, h2⟩ hb => ⟨Q, cQ, h1, h2.below hb⟩, fun _ _ _ _ ⟨Q, cQ, h1, h2⟩ hB => ⟨Q, cQ, h1, h2.more hB⟩⟩
/-- The fields are these, four of them slices. -/
def Fld.dat4 (mk : Option Addr → Nat → Option Addr → Nat → Option Addr → Nat → Option Addr → Nat → List Value) (d0 d1 d2 d3 : List UInt8) : Fld :=
  ⟨fun w B fs => ∃ Q0 q0 Q1 q1 Q2 q2 Q3 q3, fs = mk Q0 q0 Q1 q1 Q2 q2 Q3 q3 ∧ Sl w B Q0 d0.length (bcs d0) ∧ Sl w B Q1 d1.length (bcs d1) ∧ Sl w B Q2 d2.length (bcs d2) ∧ Sl w B Q3 d3.length (bcs d3),
   fun _ _ _ _ ⟨Q0, q0, Q1, q1, Q2, q2, Q3, q3, h, h0, h1, h2, h3⟩ hb => ⟨Q0, q0, Q1, q1, Q2, q2, Q3, q3, h, h0.below hb, h1.below hb, h2.below hb, h3.below hb⟩,
   fun _ _ _ _ ⟨Q0, q0, Q1, q1, Q2, q2, Q3, q3, h, h0, h1, h2, h3⟩ hB => ⟨Q0, q0, Q1, q1, Q2, q2, Q3, q3, h, h0.more hB, h1.more hB, h2.more hB, h3.more hB⟩⟩
end Go.Proofs.YtphmklgbbpiafaaGreat
