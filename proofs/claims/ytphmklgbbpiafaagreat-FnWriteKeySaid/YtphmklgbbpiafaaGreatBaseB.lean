/-
  Contracts of the taker: its numbers, truths, bytes, and whether all was taken. No condition.
-/
import Derived.Test.YtphmklgbbpiafaaGreatBaseA
namespace Go.Proofs.YtphmklgbbpiafaaGreat
open Go Go.RowKit
set_option linter.unusedVariables false

attribute [local go_sem] sd_drewN ad_drewN

/-- A truth as the taker has it. -/
def bt (v : Nat) : Bool := v == 1
theorem bt_int (v : Nat) : bt v = ((v : Int) == 1) := by
  unfold bt
  rw [Bool.eq_iff_iff]
  simp
  omega

set_option maxRecDepth 100000 in
/-- taker.number where the number has fewer than 64 bits: the next number. -/
theorem number_lt (gc gN oN nN cN k v : Nat) (bits ki : Int) (w : World)
    (hki : ki = k) (hk : k < nN) (hnN : nN ≤ 1000) (hb0 : 0 ≤ bits) (hb : bits < 64) (hv : v < 2 ^ bits.toNat)
    (c0 : w.cell? ⟨gc, 0, none⟩ = some (.slice (some ⟨gN, oN, none⟩) nN cN))
    (c4 : w.cell? ⟨gc, 4, none⟩ = some (.int .i64 ki))
    (f4 : w.frozen? ⟨gc, 4, none⟩ = false)
    (hne : gN ≠ gc)
    (cv : w.cell? ⟨gN, oN + k, none⟩ = some (.int .u64 v)) :
    Calls Tryz.prog 36 #[.pointer (some ⟨gc, 0, none⟩), .int .i64 bits] w fun e w' =>
      e = .returned (.int .u64 v) ∧ ∃ q, w' = (w.setCell ⟨gc, 4, none⟩ (.int .i64 (ki + 1))).drewN q := by
  refine calls_hid fun R hR => ?_
  obtain ⟨b, rfl⟩ := Int.eq_ofNat_of_zero_le hb0
  subst hki
  have h1 : decide (nN ≤ k) = false := by simp; omega
  have h2 : decide ((b : Int) < 64) = true := by simp; omega
  have h3 : ((v : Int) / 2 ^ b != 0) = false := by
    have h : v / 2 ^ b = 0 := Nat.div_eq_of_lt (by simpa using hv)
    have : ((v / 2 ^ b : Nat) : Int) = 0 := by rw [h]; rfl
    simpa using this
  have cv' : (w.setCell ⟨gc, 4, none⟩ (.int .i64 (k + 1))).cell? ⟨gN, oN + k, none⟩ = some (.int .u64 v) := by
    rw [World.cell?_setCell_other _ _ _ _ (by intro e; injection e with e; exact hne e.symm)]; exact cv
  clear hv
  go_enter Tryz.func36, Tryz.ntmps36
  go_wp2_with fail
  go_quiet (fail)
  go_wp2_with fail
  go_quiet (fail)
  go_wp2
  exact hR.out _ _ ⟨rfl, _, World.drewN_drewN _ _ _⟩

set_option maxRecDepth 100000 in
/-- taker.number at 64 bits. -/
theorem number_64 (gc gN oN nN cN k v : Nat) (ki : Int) (w : World)
    (hki : ki = k) (hk : k < nN) (hnN : nN ≤ 1000)
    (c0 : w.cell? ⟨gc, 0, none⟩ = some (.slice (some ⟨gN, oN, none⟩) nN cN))
    (c4 : w.cell? ⟨gc, 4, none⟩ = some (.int .i64 ki))
    (f4 : w.frozen? ⟨gc, 4, none⟩ = false)
    (hne : gN ≠ gc)
    (cv : w.cell? ⟨gN, oN + k, none⟩ = some (.int .u64 v)) :
    Calls Tryz.prog 36 #[.pointer (some ⟨gc, 0, none⟩), .int .i64 64] w fun e w' =>
      e = .returned (.int .u64 v) ∧ ∃ q, w' = (w.setCell ⟨gc, 4, none⟩ (.int .i64 (ki + 1))).drewN q := by
  refine calls_hid fun R hR => ?_
  subst hki
  have h1 : decide (nN ≤ k) = false := by simp; omega
  have cv' : (w.setCell ⟨gc, 4, none⟩ (.int .i64 (k + 1))).cell? ⟨gN, oN + k, none⟩ = some (.int .u64 v) := by
    rw [World.cell?_setCell_other _ _ _ _ (by intro e; injection e with e; exact hne e.symm)]; exact cv
  go_enter Tryz.func36, Tryz.ntmps36
  go_wp2_with fail
  go_quiet (fail)
  go_wp2_with fail
  go_quiet (fail)
  go_wp2
  exact hR.out _ _ ⟨rfl, _, World.drewN_drewN _ _ _⟩

set_option maxRecDepth 100000 in
/-- taker.truth. -/
theorem truth_ok (gc gN oN nN cN k v : Nat) (ki : Int) (w : World)
    (hki : ki = k) (hk : k < nN) (hnN : nN ≤ 1000) (hv : v < 2)
    (c0 : w.cell? ⟨gc, 0, none⟩ = some (.slice (some ⟨gN, oN, none⟩) nN cN))
    (c4 : w.cell? ⟨gc, 4, none⟩ = some (.int .i64 ki))
    (f4 : w.frozen? ⟨gc, 4, none⟩ = false)
    (hne : gN ≠ gc)
    (cv : w.cell? ⟨gN, oN + k, none⟩ = some (.int .u64 v)) :
    Calls Tryz.prog 37 #[.pointer (some ⟨gc, 0, none⟩)] w fun e w' =>
      e = .returned (.bool (bt v)) ∧ ∃ q, w' = (w.setCell ⟨gc, 4, none⟩ (.int .i64 (ki + 1))).drewN q := by
  refine calls_hid fun R hR => ?_
  go_enter Tryz.func37, Tryz.ntmps37
  go_wp2_with (go_at_call 36; refine (number_lt gc gN oN nN cN k v 1 ki w hki hk hnN (by decide) (by decide) (by simpa using hv) c0 c4 f4 hne cv).mono ?_; rintro e w1 ⟨rfl, q, rfl⟩)
  rw [← hki]
  exact hR.out _ _ ⟨by rw [bt_int]; rfl, _, rfl⟩

set_option maxRecDepth 100000 in
/-- taker.bytes: a copy of the next bytes. -/
theorem tbytes_ok (gc gD oD nD cD k : Nat) (ki : Int) (A : Option Addr) (n c : Nat) (xs : List UInt8) (w : World)
    (hki : ki = k) (hk : k < nD) (hnD : nD ≤ 1000)
    (c1 : w.cell? ⟨gc, 1, none⟩ = some (.slice (some ⟨gD, oD, none⟩) nD cD))
    (c5 : w.cell? ⟨gc, 5, none⟩ = some (.int .i64 ki))
    (f5 : w.frozen? ⟨gc, 5, none⟩ = false)
    (hne : gD ≠ gc) (cv : w.cell? ⟨gD, oD + k, none⟩ = some (.slice A n c)) (hs : Sl w gc A n (bcs xs)) (hn : n ≤ 1000000) (hgc : gc ≤ w.heap.size) :
    Calls Tryz.prog 38 #[.pointer (some ⟨gc, 0, none⟩)] w fun e w' => ∃ A' c', 
      e = .returned (.slice A' n c') ∧ n ≤ c' ∧ (A' = none → c' = 0) ∧ Below w.heap.size (w.setCell ⟨gc, 5, none⟩ (.int .i64 (ki + 1))) w' ∧ Sl w' w'.heap.size A' n (bcs xs) := by
  refine calls_hid fun R hR => ?_
  subst hki
  have h1 : decide (nD ≤ k) = false := by simp; omega
  have cv' : (w.setCell ⟨gc, 5, none⟩ (.int .i64 (k + 1))).cell? ⟨gD, oD + k, none⟩ = some (.slice A n c) := by
    rw [World.cell?_setCell_other _ _ _ _ (by intro e; injection e with e; exact hne e.symm)]; exact cv
  have hs' : Sl (w.setCell ⟨gc, 5, none⟩ (.int .i64 (k + 1))) w.heap.size A n (bcs xs) := (hs.keep (fun g hg => Below.heap_setCell _ _ _ _ (by simp; omega))).more hgc
  have HS := Lib.hid hs'
  clear hs hs'
  go_enter Tryz.func38, Tryz.ntmps38
  go_wp2_with fail
  go_quiet (fail)
  go_wp2_with fail
  have hw1 : IntKind.i64.wrap (k : Int) = k := IntWalk.i64_in _ (by omega)
  have hw2 : (k : Int) < (nD : Int) := by omega
  refine wp_region_tail 12 (by kernel_rfl) (by kernel_rfl) ?_
  simp only [List.take_succ_cons, List.take_zero, List.drop_succ_cons, List.drop_zero]
  repeat still_step
  refine wpStill_nil ?_
  clear hw1
  go_wp2_with fail
  refine (clone_any A n c xs _ ?h1 hn).mono ?_
  case h1 => (have := HS.out; simp only [World.heap_drewN, World.size_setCell]; exact this)
  rintro e w1 ⟨A', c', rfl, h2, h3, h4, h5⟩
  go_wp2
  simp only [World.heap_drewN, World.size_setCell] at h4
  exact hR.out _ _ ⟨A', c', rfl, h2, h3, below_undrewN h4, h5⟩

set_option maxRecDepth 100000 in
/-- taker.whole, where all was taken and no parts are there. -/
theorem whole_ok (gc nN cN nD cD cP : Nat) (AN AD AP : Option Addr) (k d : Int) (lists : Bool) (w : World)
    (hk : k = nN) (hd : d = nD) (hN : nN ≤ 1000) (hD : nD ≤ 1000)
    (c0 : w.cell? ⟨gc, 0, none⟩ = some (.slice AN nN cN)) (c1 : w.cell? ⟨gc, 1, none⟩ = some (.slice AD nD cD)) (c2 : w.cell? ⟨gc, 2, none⟩ = some (.slice AP 0 cP))
    (c4 : w.cell? ⟨gc, 4, none⟩ = some (.int .i64 k)) (c5 : w.cell? ⟨gc, 5, none⟩ = some (.int .i64 d)) (c6 : w.cell? ⟨gc, 6, none⟩ = some (.bool false)) (c7 : w.cell? ⟨gc, 7, none⟩ = some (.bool lists)) :
    Calls Tryz.prog 41 #[.pointer (some ⟨gc, 0, none⟩)] w fun e w' => e = .returned (.bool true) ∧ ∃ q, w' = w.drewN q := by
  refine calls_hid fun R hR => ?_
  subst hk
  subst hd
  cases lists
  all_goals
    go_enter Tryz.func41, Tryz.ntmps41
    go_wp2_with fail
    go_quiet (fail)
    go_wp2
    exact hR.out _ _ ⟨rfl, _, rfl⟩
end Go.Proofs.YtphmklgbbpiafaaGreat
