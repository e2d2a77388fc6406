/-
  The reference's 'l := layer(..)': worlds in which the variable is made before or behind the call. No condition.
-/
import Derived.Test.YtphmklgbbpiafaaGreatCutB
namespace Go.Proofs.YtphmklgbbpiafaaGreat
open Go Go.RowKit
set_option linter.unusedVariables false
theorem low_alloc0 {w : World} {g i : Nat} {O : Obj} (hg : g < w.heap.size) : (w.alloc O).cell? ⟨g, i, none⟩ = w.cell? ⟨g, i, none⟩ :=
  World.cell?_of_block (w := w) (Below.heap_alloc _ _ g hg)
theorem low_alloc2 {w : World} {g i : Nat} {O P : Obj} (hg : g < w.heap.size) : ((w.alloc O).alloc P).drew.cell? ⟨g, i, none⟩ = w.cell? ⟨g, i, none⟩ :=
  (low_alloc (w := w.alloc O) (by simp; omega)).trans (low_alloc0 hg)
/-- What is known behind 'l := layer(payload, nums..)': the variable's block l, the result's block b, the numbers. -/
structure Lay (w W3 : World) (b l B0 : Nat) (AN : Option Addr) (m : Nat) (nums : List Nat) (P : Value) : Prop where
  hl : Bk W3 l 27 [.slice AN m m, .slice none 0 0, .slice none 0 0, P]
  hr : Bk W3 b 27 [.slice none 0 0, .slice none 0 0, .slice none 0 0, .slice none 0 0]
  be : Below w.heap.size w W3
  hN : ∃ gn, AN = some ⟨gn, 0, none⟩ ∧ Bk W3 gn 46 (ncs nums) ∧ w.heap.size < gn ∧ gn ≠ l ∧ b ≠ gn
  hm : nums.length = m
  bl : b < l
  wl : w.heap.size < l
/-- the call first, then the variable -/
theorem lay_after {w W w23 : World} {b : Nat} {m : Nat} {nums : List Nat} {cs : List Value} {P : Value} (hcs : cs = ncs nums) (hm : nums.length = m) (hbe : Below w.heap.size w W) (hb : w.heap.size ≤ b) (hsz : w.heap.size < W.heap.size)
    (hbk : Bk W b 27 [.slice none 0 0, .slice none 0 0, .slice none 0 0, .slice none 0 0]) (hb23 : Below (W.alloc (.cells cs.toArray 46)).drew.heap.size (W.alloc (.cells cs.toArray 46)).drew w23) :
    Lay w (w23.alloc (.cells #[.slice (some ⟨W.heap.size, 0, none⟩) m m, .slice none 0 0, .slice none 0 0, P] 27)) b w23.heap.size 0 (some ⟨W.heap.size, 0, none⟩) m nums P := by
  have hz := hb23.size
  simp at hz
  have hlt := hbk.lt
  refine ⟨Bk.new _ _ _, ((hbk.alloc _).drew.below hb23 (by simp; omega)).alloc _, ((hbe.alloc hbe.size _).drew.trans (hb23.mono (by simp; omega))).alloc (by omega) _, ⟨W.heap.size, rfl, ?_, hsz, by omega, by omega⟩, hm, by omega, by omega⟩
  exact (((Bk.new W 46 cs).drew.below hb23 (by simp)).alloc _).cast hcs
/-- the variable first, then the call -/
theorem lay_before {w W w23 : World} {b l : Nat} {m : Nat} {nums : List Nat} {cs : List Value} {P : Value} (hcs : cs = ncs nums) (hm : nums.length = m) (hbe : Below w.heap.size w W) (hb : w.heap.size ≤ b) (hsz : w.heap.size < W.heap.size) (hl : l = W.heap.size + 1)
    (hbk : Bk W b 27 [.slice none 0 0, .slice none 0 0, .slice none 0 0, .slice none 0 0]) (hb23 : Below ((W.alloc (.cells cs.toArray 46)).alloc (.cells #[.slice none 0 0, .slice none 0 0, .slice none 0 0, .slice none 0 0] 27)).drew.heap.size ((W.alloc (.cells cs.toArray 46)).alloc (.cells #[.slice none 0 0, .slice none 0 0, .slice none 0 0, .slice none 0 0] 27)).drew w23) :
    Bk w23 l 27 [.slice none 0 0, .slice none 0 0, .slice none 0 0, .slice none 0 0] ∧
    Lay w (set4 w23 l (.slice (some ⟨W.heap.size, 0, none⟩) m m) (.slice none 0 0) (.slice none 0 0) P) b l 0 (some ⟨W.heap.size, 0, none⟩) m nums P := by
  have hz := hb23.size
  simp at hz
  have hlt := hbk.lt
  subst hl
  have h0 : Bk w23 (W.heap.size + 1) 27 [.slice none 0 0, .slice none 0 0, .slice none 0 0, .slice none 0 0] := by
    have := Bk.new (W.alloc (.cells cs.toArray 46)) 27 [.slice none 0 0, .slice none 0 0, .slice none 0 0, .slice none 0 0]
    have h2 := this.drew.below hb23 (by simp)
    simpa using h2
  have hbw : Below w.heap.size w w23 := (((hbe.alloc hbe.size _).alloc (by simp; omega) _).drew).trans (hb23.mono (by simp; omega))
  have hgr := set4_grown w23 (W.heap.size + 1) (.slice (some ⟨W.heap.size, 0, none⟩) m m) (.slice none 0 0) (.slice none 0 0) P
  refine ⟨h0, set4_bk h0 _ _ _ _, (((hbk.alloc _).alloc _).drew.below hb23 (by simp; omega)).grown hgr (by simp; omega), set4_below hbw _ (by omega) _ _ _ _, ⟨W.heap.size, rfl, ?_, hsz, by omega, by omega⟩, hm, by omega, by omega⟩
  have hn := ((Bk.new W 46 cs).alloc (.cells #[.slice none 0 0, .slice none 0 0, .slice none 0 0, .slice none 0 0] 27)).drew.below hb23 (by simp; omega)
  exact (hn.grown hgr (by simp)).cast hcs
/-- the variable first of all, then the numbers, then the call -/
theorem lay_first {w W w23 : World} {b l : Nat} {m : Nat} {nums : List Nat} {cs : List Value} {P : Value} (hcs : cs = ncs nums) (hm : nums.length = m) (hbe : Below w.heap.size w W) (hb : w.heap.size ≤ b) (hsz : w.heap.size < W.heap.size) (hl : l = W.heap.size)
    (hbk : Bk W b 27 [.slice none 0 0, .slice none 0 0, .slice none 0 0, .slice none 0 0]) (hb23 : Below ((W.alloc (.cells #[.slice none 0 0, .slice none 0 0, .slice none 0 0, .slice none 0 0] 27)).alloc (.cells cs.toArray 46)).drew.heap.size ((W.alloc (.cells #[.slice none 0 0, .slice none 0 0, .slice none 0 0, .slice none 0 0] 27)).alloc (.cells cs.toArray 46)).drew w23) :
    Bk w23 l 27 [.slice none 0 0, .slice none 0 0, .slice none 0 0, .slice none 0 0] ∧
    Lay w (set4 w23 l (.slice (some ⟨W.heap.size + 1, 0, none⟩) m m) (.slice none 0 0) (.slice none 0 0) P) b l 0 (some ⟨W.heap.size + 1, 0, none⟩) m nums P := by
  have hz := hb23.size
  simp at hz
  have hlt := hbk.lt
  subst hl
  have h0 : Bk w23 W.heap.size 27 [.slice none 0 0, .slice none 0 0, .slice none 0 0, .slice none 0 0] :=
    ((Bk.new W 27 [.slice none 0 0, .slice none 0 0, .slice none 0 0, .slice none 0 0]).alloc (.cells cs.toArray 46)).drew.below hb23 (by simp; omega)
  have hbw : Below w.heap.size w w23 := (((hbe.alloc hbe.size _).alloc (by simp; omega) _).drew).trans (hb23.mono (by simp; omega))
  have hgr := set4_grown w23 W.heap.size (.slice (some ⟨W.heap.size + 1, 0, none⟩) m m) (.slice none 0 0) (.slice none 0 0) P
  refine ⟨h0, set4_bk h0 _ _ _ _, (((hbk.alloc _).alloc _).drew.below hb23 (by simp; omega)).grown hgr (by simp; omega), set4_below hbw _ (by omega) _ _ _ _, ⟨W.heap.size + 1, rfl, ?_, by omega, by omega, by omega⟩, hm, by omega, by omega⟩
  have hn := Bk.new (W.alloc (.cells #[.slice none 0 0, .slice none 0 0, .slice none 0 0, .slice none 0 0] 27)) 46 cs
  have hn2 := hn.drew.below hb23 (by simp)
  simp only [World.size_alloc] at hn2
  exact (hn2.grown hgr (by simp)).cast hcs
end Go.Proofs.YtphmklgbbpiafaaGreat
