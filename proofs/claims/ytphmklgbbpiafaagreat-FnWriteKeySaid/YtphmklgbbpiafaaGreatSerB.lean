/-
  Words on copies of bytes into a block that is known whole. No condition.
-/
import Derived.Test.YtphmklgbbpiafaaGreatSerA
namespace Go.Proofs.YtphmklgbbpiafaaGreat
open Go Go.RowKit

theorem setRow_only (w : World) (g : Nat) (cs : Array Value) : w.grownBy (w.setRow g cs) (some g) :=
  ⟨rfl, rfl, rfl, by simp [World.setRow], fun i _ hne => setRow_other w g i cs (by rintro rfl; exact hne rfl)⟩
/-- 'copy(d, s)' of all of s, into a block known whole, from a slice that holds X. -/
theorem wpList_copy_bk {P : Program} {w : World} {ops : Array Oper} {rest : List Oper} {o : Oper} {a : Act} {Q : Exit → Act → World → Prop} (hgd : o.guard = none) (d s : Operand) (sT : TypeId)
    (ho : o.op = .call { callee := .builtin .copy, args := #[d, s], argTypes := #[25, sT] }) (hu : P.underlying 25 = some (.slice 5)) (hsz : (P.info? 5).map (·.size) = some 1)
    (g off dLen dCap B n sCap : Nat) (sp : Option Addr) (cs : List Value) (X : List UInt8) (hd : a.eval d = .slice (some ⟨g, off, none⟩) dLen dCap) (hs : a.eval s = .slice sp n sCap)
    (hg : Bk w g 5 cs) (hX : Sl w B sp n (bcs X)) (hle : n ≤ dLen) (hfit : off + n ≤ cs.length)
    (h : ∀ w', Bk w' g 5 (splice cs off (bcs X)) → w.grownBy w' (some g) → wpList P ops Q rest (a.put o.dst (goInt n)) w') : wpList P ops Q (o :: rest) a w := by
  have hl : (bcs X).length = n := hX.1
  rcases Nat.eq_zero_or_pos n with rfl | hpos
  · refine wpList_copy_nothing hgd d s 25 sT ho 5 hu hsz (some ⟨g, off, none⟩) sp dLen dCap 0 sCap hd hs (by simp) ?_
    have e : bcs X = [] := List.eq_nil_of_length_eq_zero hl
    refine h w ?_ (grownBy_refl' _ _)
    rw [e]
    exact Bk.cast hg (by simp [splice])
  · obtain ⟨q, qo, rfl, _, hc⟩ := hX.2 hpos
    have hmin : (bcs X).length = Nat.min n dLen := by rw [hl]; exact (Nat.min_eq_left hle).symm
    refine wpList_copy_own hgd d s 25 sT ho 5 hu hsz g off dLen dCap ⟨q, qo, none⟩ n sCap hd hs cs.toArray 5 hg (bcs X) hmin (fun j v hj => ?_) (by simpa [hl] using hfit) bcs_one ?_
    · rw [Addr.add_lit]; exact hc j v hj
    · rw [hl]
      refine h _ ?_ (setRow_only w g _)
      have := setRow_heap w g _ (splice cs off (bcs X)).toArray 5 _ hg
      simpa [splice, hl, Bk] using this
theorem Hd.slice {w1 w : World} {g gb gx : Nat} {T : TypeId} {cs : List Value} {A : List UInt8} {k : Nat} {R bc : List Value} (h : Hd w1 w g gb gx T cs A k R bc) {sp : Option Addr} {n : Nat} {xs : List Value}
    (hs : Sl w1 gb sp n xs) (hlt : gb < w1.heap.size) (hg : gb ≤ g) : Sl w gb sp n xs :=
  hs.keep fun g' hg' => h.gr.block g' (by omega) (by simp; omega)
theorem nil_prepend (gb : Nat) (W : World) : (nilAhead 390 160 (.pointer (some ⟨gb, 0, none⟩)) "PrependBytes").run Tryz.prog W = .ok (some false) W := by kernel_rfl
theorem nil_append (gb : Nat) (W : World) : (nilAhead 390 160 (.pointer (some ⟨gb, 0, none⟩)) "AppendBytes").run Tryz.prog W = .ok (some false) W := by kernel_rfl
theorem method_prepend (gb : Nat) (W : World) : (method 390 160 (.pointer (some ⟨gb, 0, none⟩)) "PrependBytes").run Tryz.prog W = .ok (179, .pointer (some ⟨gb, 0, none⟩)) W := by kernel_rfl
theorem method_append (gb : Nat) (W : World) : (method 390 160 (.pointer (some ⟨gb, 0, none⟩)) "AppendBytes").run Tryz.prog W = .ok (175, .pointer (some ⟨gb, 0, none⟩)) W := by kernel_rfl
end Go.Proofs.YtphmklgbbpiafaaGreat
