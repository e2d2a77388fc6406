/-
  Contracts of bytes.Clone and of the buffer's beginning. No condition.
-/
import Derived.Lib.SliceRun
import Derived.Test.YtphmklgbbpiafaaGreatSerB
namespace Go.Proofs.YtphmklgbbpiafaaGreat
open Go Go.RowKit
set_option linter.unusedVariables false
attribute [local go_sem] sd_drewN ad_drewN

set_option maxRecDepth 100000 in
set_option maxHeartbeats 1000000 in
/-- bytes.Clone: the same bytes in new memory; nil of nil. -/
theorem bclone_any (A : Option Addr) (n c : Nat) (xs : List UInt8) (w : World) (hs : Sl w w.heap.size A n (bcs xs)) (hA : A = none → n = 0) (hbig : n ≤ 1000000) :
    Calls Tryz.prog 32 #[.slice A n c] w fun e w' => ∃ A' c', e = .returned (.slice A' n c') ∧ n ≤ c' ∧ (A' = none → c' = 0) ∧ Below w.heap.size w w' ∧ Sl w' w'.heap.size A' n (bcs xs) := by
  refine calls_hid fun R hR => ?_
  obtain ⟨i0, hi0, hz0, hz1, hz2⟩ := info_parts info5
  have qT : ∀ (w : World) (a : Option Addr) (n c n' c' : Nat), (binOp .eql 25 (.slice a n c) (.slice none n' c')).run Tryz.prog w = .ok (.bool a.isNone) w := fun w a n c n' c' => Lib.run_eql_slice_nil w _ _ a n c n' c' Tryz.underlying25
  have HS := Lib.hid hs
  clear hs
  rcases A with _ | A
  · obtain rfl := hA rfl
    have hx : xs = [] := List.eq_nil_of_length_eq_zero (by have := HS.out.1; rwa [bcs_length] at this)
    subst hx
    go_enter Tryz.func32, Tryz.ntmps32
    go_wp2_with fail
    exact hR.out _ _ ⟨none, 0, rfl, Nat.le_refl _, fun _ => rfl, Below.refl _ _, Sl.none_ _ _ _⟩
  · go_enter Tryz.func32, Tryz.ntmps32
    go_wp2_with (at_builtin; refine wpList_append_sl _ rfl (.tmp 5) (.tmp 6) _ rfl w.heap.size 5 i0 _ 1 Tryz.underlying25 hi0 hz0 hz1 hz2 rfl _ 0 [] rfl (World.ownsRow_made _ _ _ (Nat.le_refl _) (by simp [maxLen]) (by simp)) w.heap.size (some A) n c (bcs xs) rfl ((HS.out.below ((Below.refl _ _).alloc (Nat.le_refl _) _))) bcs_one (by simp only [maxLen]; omega) (by omega) (by simp) ?_; intro v1 w1 ho1 hg1 hv1)
    obtain ⟨A', c', hv, hc, hs', hnil⟩ := own_form ho1.out
    rw [Nat.zero_add] at hv hc hs'
    rw [List.nil_append] at hs'
    rw [hv]
    exact hR.out _ _ ⟨A', c', rfl, hc, hnil, ((Below.refl _ _).alloc (Nat.le_refl _) _).grown hg1 (by simp) (by intro k hk; have hk2 : some w.heap.size = some k := hk; injection hk2 with hk2; omega), hs'⟩
end Go.Proofs.YtphmklgbbpiafaaGreat
