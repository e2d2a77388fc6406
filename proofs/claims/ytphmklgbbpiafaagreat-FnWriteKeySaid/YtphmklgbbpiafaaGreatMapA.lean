/-
  Laws for the walk: a map of strings and numbers that is laid entry by entry, and looked into. No condition.
-/
import Derived.WideMake
import Derived.Carry
import Derived.Test.YtphmklgbbpiafaaGreatWidA
namespace Go.Proofs.YtphmklgbbpiafaaGreat
open Go Go.RowKit
set_option linter.unusedVariables false

/-- Block g is just this map. -/
def Mp (w : World) (g : Nat) (es : List MapEntry) (clk : Nat) : Prop := w.heap[g]? = some (.map es.toArray clk)
theorem Mp.new (w : World) : Mp (w.alloc (.map #[] 0)) w.heap.size [] 0 := heap_alloc_new w _
theorem run_insert (w : World) (g clk : Nat) (es : List MapEntry) (s : ByteArray) (val : Value) (hb : Mp w g es clk) (hf : Instr.findNow .string (.string s) es 0 = some none) :
    (Instr.mapUpdate 164 (.map (some g)) (.string s) val).run Tryz.prog w = .ok () { w with heap := w.heap.setIfInBounds g (.map (es.toArray.push { key := .string s, val := val, born := clk }) (clk + 1)) } := by
  unfold Mp at hb
  have hf' : Instr.findNow .string (.string s) es.toArray.toList 0 = some none := by simpa using hf
  have hc : (Instr.checkKey false 10000 9 (.string s)).run Tryz.prog w = .ok () w := MapKept.run_checkKey (k := .string s) Tryz.underlying9 (by simp [MapKept.IsKey]) false 9999
  simp [Instr.mapUpdate, run_underlying Tryz.underlying164, MapKept.run_getObj_map hb, hc, MapKept.run_findKey Tryz.underlying9 hf', MapKept.run_setObj_map _ hb, Result.andThen]
theorem wpList_insert (w : World) {ops : Array Oper} {rest : List Oper} {o : Oper} {a : Act} {Q : Exit → Act → World → Prop} (hg : o.guard = none) (m x v : Operand) (hop : o.op = Op.insert 164 m x v)
    (g clk : Nat) (es : List MapEntry) (hb : Mp w g es clk) (s : ByteArray) (val : Value) (hm : a.eval m = .map (some g)) (hx : a.eval x = .string s) (hv : a.eval v = val)
    (hf : Instr.findNow .string (.string s) es 0 = some none)
    (h : ∀ w', Mp w' g (es ++ [{ key := .string s, val := val, born := clk }]) (clk + 1) → w.grownBy w' (some g) → wpList Tryz.prog ops Q rest (a.put o.dst undef) w') : wpList Tryz.prog ops Q (o :: rest) a w := by
  refine wpList_plain hg fun K' hK' => ?_
  have hrun := run_insert w g clk es s val hb hf
  unfold Oper.wp
  simp [execOp, hop, hm, hx, hv, hrun, Result.andThen]
  refine hK' _ _ (h _ ?_ ?_)
  · have hlt : g < w.heap.size := by
      unfold Mp at hb
      rcases Nat.lt_or_ge g w.heap.size with hlt | hge
      · exact hlt
      · rw [Array.getElem?_eq_none hge] at hb; cases hb
    simp [Mp, hlt]
  · refine ⟨rfl, rfl, rfl, by simp, fun i hi hne => ?_⟩
    have : g ≠ i := fun e => hne (by rw [e])
    simp [this]
theorem wpList_mapget (w : World) {ops : Array Oper} {rest : List Oper} {o : Oper} {a : Act} {Q : Exit → Act → World → Prop} (hg : o.guard = none) (m x : Operand) (hop : o.op = Op.lookup 164 m x false)
    (g clk i : Nat) (es : List MapEntry) (hb : Mp w g es clk) (s : ByteArray) (val : Value) (hm : a.eval m = .map (some g)) (hx : a.eval x = .string s)
    (hf : Instr.findNow .string (.string s) es 0 = some (some (i, val)))
    (h : wpList Tryz.prog ops Q rest (a.put o.dst val) w) : wpList Tryz.prog ops Q (o :: rest) a w := by
  refine wpList_plain hg fun K' hK' => ?_
  unfold Mp at hb
  have hf' : Instr.findNow .string (.string s) es.toArray.toList 0 = some (some (i, val)) := by simpa using hf
  have hc : ∀ e, (Instr.checkKey e 10000 9 (.string s)).run Tryz.prog w = .ok () w := fun e => MapKept.run_checkKey (k := .string s) Tryz.underlying9 (by simp [MapKept.IsKey]) e 9999
  have hrun : (Instr.lookup 164 (.map (some g)) (.string s) false).run Tryz.prog w = .ok val w := by
    simp [Instr.lookup, run_underlying Tryz.underlying164, MapKept.run_getObj_map hb, hc, MapKept.run_findKey Tryz.underlying9 hf', Result.andThen]
  unfold Oper.wp
  simp [execOp, hop, hm, hx, hrun, Result.andThen]
  exact hK' _ _ h
end Go.Proofs.YtphmklgbbpiafaaGreat
