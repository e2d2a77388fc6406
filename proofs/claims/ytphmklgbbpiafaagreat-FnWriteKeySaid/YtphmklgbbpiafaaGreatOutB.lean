/-
  The reference's Write: behind an append of bytes. No condition.
-/
import Derived.Test.YtphmklgbbpiafaaGreatOutA
namespace Go.Proofs.YtphmklgbbpiafaaGreat
open Go Go.RowKit
set_option linter.unusedVariables false
theorem out_appended {W w2 : World} {go n : Nat} {v0 v2 : Value} {ys : List UInt8} {cs : List Value} (hk : Bk w2 go 25 [v0]) (ho : w2.ownsRow W.heap.size 5 1 v2 n cs) (hn : n = ys.length) (hc : cs = bcs ys)
    (hb : Below W.heap.size W w2) (hg : W.heap.size ≤ go) : Out W (w2.setCell ⟨go, 0, none⟩ v2) go ys := by
  subst hn
  subst hc
  have hne := own_blk_ne ho hk (by decide)
  exact ⟨⟨v2, hk.set_ 0 _, ho.kept (only_set (grown_of_below (Below.refl _ _) (some go)) (.inl rfl) _) (.inr hne)⟩, hb.setCell (p := ⟨go, 0, none⟩) hg _, hg⟩
end Go.Proofs.YtphmklgbbpiafaaGreat
