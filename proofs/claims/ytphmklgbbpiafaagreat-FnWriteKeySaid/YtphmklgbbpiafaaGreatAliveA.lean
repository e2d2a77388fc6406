/-
  MPLS read by both sides; a label is read. No condition.
-/
import Derived.Test.YtphmklgbbpiafaaGreatReadL
import Derived.Test.YtphmklgbbpiafaaGreatMplsC
import Derived.Test.YtphmklgbbpiafaaGreatMplsD
import Derived.Test.YtphmklgbbpiafaaGreatMplsE
import Derived.Test.YtphmklgbbpiafaaGreatMplsF
namespace Go.Proofs.YtphmklgbbpiafaaGreat
open Go Go.RowKit
set_option linter.unusedVariables false
set_option linter.unusedSimpArgs false
attribute [local go_sem] sd_drewN ad_drewN

theorem Sl.len {w : World} {B n : Nat} {A : Option Addr} {xs : List UInt8} (h : Sl w B A n (bcs xs)) : xs.length = n := by rw [← bcs_length]; exact h.1
theorem IRead_mpls (xs : List UInt8) (h4 : 4 ≤ xs.length) (hn : xs.length ≤ 1000) : IRead k_mpls xs (rdMpls xs) [] (xs.drop 4) := by
  intro A n c w hs hnc hA
  have hl := hs.len
  have hN := beNat_take xs 4
  exact iread_mpls xs (xs.drop 4) _ _ _ (dec_mpls xs h4 hn) (told_mpls _ _ _ _ (by omega) (by omega) (by omega) (by omega) (xs.drop 4) (by rw [List.length_drop]; omega)) A n c w hs hnc hA (by omega) (fun w _ => called_mpls A n c (by omega) w)
theorem SRead_mpls (xs : List UInt8) (h4 : 4 ≤ xs.length) (hn : xs.length ≤ 1000) : SRead k_mpls xs (rdMpls xs) [] (xs.drop 4) := by
  intro A n c w hs hnc hA
  have hl := hs.len
  exact sread_mpls xs A n c w hs (by omega) hnc (by omega)
set_option maxRecDepth 100000 in
set_option maxHeartbeats 4000000 in
theorem alive_ok : Alive := by
  intro w
  refine calls_hid fun R hR => ?_
  go_enter Tryz.func25, Tryz.ntmps25
  go_wp2_with fail
  have hs : Sl (w.alloc (.cells (bcs [0, 1, 1, 64]).toArray 5)) (w.heap.size + 1) (some ⟨w.heap.size, 0, none⟩) 4 (bcs [0, 1, 1, 64]) := Sl.new rfl
  have e : rdMpls [0, 1, 1, 64] = [16, 0, 1, 64] := by decide
  have hi := IRead_mpls [0, 1, 1, 64] (by decide) (by decide)
  rw [e] at hi
  refine (hi (some ⟨w.heap.size, 0, none⟩) 4 4 _ (hs.more (by simp)) (Nat.le_refl _) (by simp)).mono ?_
  rintro e w1 ⟨v, rfl, hb1, hl1⟩
  obtain ⟨AN, cN, AD, cD, AP, cP, AB, cB, ds, hv, hN, _, _, _⟩ := hl1
  subst hv
  obtain ⟨g, o, rfl, hg, _⟩ := hN.2 (by decide)
  have c0 := hN.num (k := 0) (by decide)
  simp only [List.getD_cons_zero, Nat.add_zero] at c0
  have HB1 := Lib.hid hb1
  clear hb1 hs hi hN e
  go_wp2_with fail
  exact hR.out _ _ ⟨rfl, (((Below.refl _ w).alloc (Nat.le_refl _) _).trans (HB1.out.mono (by simp))).alloc (by have := HB1.out.size; simp at this; omega) _⟩
end Go.Proofs.YtphmklgbbpiafaaGreat
