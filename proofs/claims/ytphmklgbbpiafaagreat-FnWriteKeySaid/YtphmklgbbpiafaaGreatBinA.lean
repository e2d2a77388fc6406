/-
  Contracts of encoding/binary's readers, over bytes that a slice holds. No condition.
-/
import Derived.Lib.EndianBits
import Derived.Test.YtphmklgbbpiafaaGreatBaseA
namespace Go.Proofs.YtphmklgbbpiafaaGreat
open Go Go.RowKit
set_option linter.unusedVariables false
attribute [local go_sem] sd_drewN ad_drewN

theorem take_one_more (xs : List UInt8) (k m : Nat) (h : k < xs.length) : (xs.drop k).take (m + 1) = xs.getD k 0 :: (xs.drop (k + 1)).take m := by
  rw [List.drop_eq_getElem_cons h, List.take_succ_cons]
  simp [List.getD, List.getElem?_eq_getElem h]
theorem Sl.byte {w : World} {B g o n : Nat} {xs : List UInt8} (hs : Sl w B (some ⟨g, o, none⟩) n (bcs xs)) {k : Nat} (hk : k < n) :
    w.cell? ⟨g, o + k, none⟩ = some (.int .u8 (xs.getD k 0).toNat) := by
  have hl := hs.1
  rw [bcs_length] at hl
  obtain ⟨_, hc⟩ := hs.at_ (by omega)
  refine hc k _ ?_
  rw [bcs, List.getElem?_map, List.getElem?_eq_getElem (by omega)]
  simp [List.getD, List.getElem?_eq_getElem (show k < xs.length by omega)]
theorem Sl.lt {w : World} {B g o n : Nat} {xs : List Value} (hs : Sl w B (some ⟨g, o, none⟩) n xs) (hn : 0 < n) : g < B := (hs.at_ hn).1
theorem cell_alloc_old {w : World} {a : Addr} {v : Value} (o : Obj) (h : w.cell? a = some v) : (w.alloc o).cell? a = some v :=
  (World.cell?_alloc_lt w o a (World.block_lt_of_cell? w a h)).trans h

set_option maxRecDepth 100000 in
set_option maxHeartbeats 2000000 in
theorem u16_at (g o n k m c B oo : Nat) (xs : List UInt8) (w : World) (hs : Sl w B (some ⟨g, o, none⟩) n (bcs xs)) (hk : k + 2 ≤ n) (hm : 2 ≤ m) (ho : oo = o + k) :
    Calls Tryz.prog 100 #[.agg #[], .slice (some ⟨g, oo, none⟩) m c] w fun e w' => e = .returned (.int .u16 (Lib.beNat ((xs.drop k).take 2))) ∧ Below w.heap.size w w' := by
  refine calls_hid fun R hR => ?_
  have hl : xs.length = n := by rw [← bcs_length]; exact hs.1
  rw [take_one_more _ _ _ (by omega), take_one_more _ _ _ (by omega), List.take_zero] at hR
  have c0 := cell_alloc_old (.cells #[] 245) (hs.byte (k := k) (by omega))
  have c1 := cell_alloc_old (.cells #[] 245) (hs.byte (k := k + 1) (by omega))
  rw [← ho] at c0
  rw [← Nat.add_assoc, ← ho] at c1
  generalize hb0 : xs.getD k 0 = b0 at *
  generalize hb1 : xs.getD (k + 1) 0 = b1 at *
  have h0 : (b0.toNat : Int) < 256 := by have := b0.toNat_lt; omega
  have h1 : (b1.toNat : Int) < 256 := by have := b1.toNat_lt; omega
  have i0' : 0 < m := by omega
  have i0 : (0 : Int) < (m : Int) := by omega
  have i1 : (1 : Int) < (m : Int) := by omega
  clear hs hb0 hb1 ho hl hk
  have hv : ((Lib.beNat [b0, b1] : Nat) : Int) = (b1.toNat : Int) + (b0.toNat : Int) * 256 := by
    simp only [Lib.beNat, Lib.beFrom]
    omega
  go_enter Tryz.func100, Tryz.ntmps100
  go_wp2_with fail
  go_quiet (fail)
  go_wp2
  refine hR.out _ _ ⟨?_, below_drewN ((Below.refl _ w).alloc (Nat.le_refl _) _) _⟩
  simp (disch := omega) only [u16_or8]
  rw [hv]
  rfl

set_option maxRecDepth 100000 in
set_option maxHeartbeats 2000000 in
theorem u32_at (g o n k m c B oo : Nat) (xs : List UInt8) (w : World) (hs : Sl w B (some ⟨g, o, none⟩) n (bcs xs)) (hk : k + 4 ≤ n) (hm : 4 ≤ m) (ho : oo = o + k) :
    Calls Tryz.prog 106 #[.agg #[], .slice (some ⟨g, oo, none⟩) m c] w fun e w' => e = .returned (.int .u32 (Lib.beNat ((xs.drop k).take 4))) ∧ Below w.heap.size w w' := by
  refine calls_hid fun R hR => ?_
  have hl : xs.length = n := by rw [← bcs_length]; exact hs.1
  rw [take_one_more _ _ _ (by omega), take_one_more _ _ _ (by omega), take_one_more _ _ _ (by omega), take_one_more _ _ _ (by omega), List.take_zero] at hR
  have c0 := cell_alloc_old (.cells #[] 245) (hs.byte (k := k) (by omega))
  have c1 := cell_alloc_old (.cells #[] 245) (hs.byte (k := k + 1) (by omega))
  have c2 := cell_alloc_old (.cells #[] 245) (hs.byte (k := k + 2) (by omega))
  have c3 := cell_alloc_old (.cells #[] 245) (hs.byte (k := k + 3) (by omega))
  rw [← ho] at c0
  rw [← Nat.add_assoc, ← ho] at c1
  rw [← Nat.add_assoc, ← ho] at c2
  rw [← Nat.add_assoc, ← ho] at c3
  simp only [Nat.add_assoc, Nat.reduceAdd] at hR
  generalize hb0 : xs.getD k 0 = b0 at *
  generalize hb1 : xs.getD (k + 1) 0 = b1 at *
  generalize hb2 : xs.getD (k + 2) 0 = b2 at *
  generalize hb3 : xs.getD (k + 3) 0 = b3 at *
  have h0 : (b0.toNat : Int) < 256 := by have := b0.toNat_lt; omega
  have h1 : (b1.toNat : Int) < 256 := by have := b1.toNat_lt; omega
  have h2 : (b2.toNat : Int) < 256 := by have := b2.toNat_lt; omega
  have h3 : (b3.toNat : Int) < 256 := by have := b3.toNat_lt; omega
  have i0' : 0 < m := by omega
  have i0 : (0 : Int) < (m : Int) := by omega
  have i1 : (1 : Int) < (m : Int) := by omega
  have i2 : (2 : Int) < (m : Int) := by omega
  have i3 : (3 : Int) < (m : Int) := by omega
  clear hs hb0 hb1 hb2 hb3 ho hl hk
  have hv : ((Lib.beNat [b0, b1, b2, b3] : Nat) : Int) = (b3.toNat : Int) + (b2.toNat : Int) * 256 + (b1.toNat : Int) * 65536 + (b0.toNat : Int) * 16777216 := by
    simp only [Lib.beNat, Lib.beFrom]
    omega
  go_enter Tryz.func106, Tryz.ntmps106
  go_wp2_with fail
  go_quiet (fail)
  go_wp2
  refine hR.out _ _ ⟨?_, below_drewN ((Below.refl _ w).alloc (Nat.le_refl _) _) _⟩
  simp (disch := omega) only [u32_or8, u32_or16, u32_or24]
  rw [hv]
  rfl

set_option maxRecDepth 100000 in
set_option maxHeartbeats 2000000 in
theorem l32_at (g o n k m c B oo : Nat) (xs : List UInt8) (w : World) (hs : Sl w B (some ⟨g, o, none⟩) n (bcs xs)) (hk : k + 4 ≤ n) (hm : 4 ≤ m) (ho : oo = o + k) :
    Calls Tryz.prog 110 #[.agg #[], .slice (some ⟨g, oo, none⟩) m c] w fun e w' => e = .returned (.int .u32 (Lib.leNat ((xs.drop k).take 4))) ∧ Below w.heap.size w w' := by
  refine calls_hid fun R hR => ?_
  have hl : xs.length = n := by rw [← bcs_length]; exact hs.1
  rw [take_one_more _ _ _ (by omega), take_one_more _ _ _ (by omega), take_one_more _ _ _ (by omega), take_one_more _ _ _ (by omega), List.take_zero] at hR
  have c0 := cell_alloc_old (.cells #[] 255) (hs.byte (k := k) (by omega))
  have c1 := cell_alloc_old (.cells #[] 255) (hs.byte (k := k + 1) (by omega))
  have c2 := cell_alloc_old (.cells #[] 255) (hs.byte (k := k + 2) (by omega))
  have c3 := cell_alloc_old (.cells #[] 255) (hs.byte (k := k + 3) (by omega))
  rw [← ho] at c0
  rw [← Nat.add_assoc, ← ho] at c1
  rw [← Nat.add_assoc, ← ho] at c2
  rw [← Nat.add_assoc, ← ho] at c3
  simp only [Nat.add_assoc, Nat.reduceAdd] at hR
  generalize hb0 : xs.getD k 0 = b0 at *
  generalize hb1 : xs.getD (k + 1) 0 = b1 at *
  generalize hb2 : xs.getD (k + 2) 0 = b2 at *
  generalize hb3 : xs.getD (k + 3) 0 = b3 at *
  have h0 : (b0.toNat : Int) < 256 := by have := b0.toNat_lt; omega
  have h1 : (b1.toNat : Int) < 256 := by have := b1.toNat_lt; omega
  have h2 : (b2.toNat : Int) < 256 := by have := b2.toNat_lt; omega
  have h3 : (b3.toNat : Int) < 256 := by have := b3.toNat_lt; omega
  have i0' : 0 < m := by omega
  have i0 : (0 : Int) < (m : Int) := by omega
  have i1 : (1 : Int) < (m : Int) := by omega
  have i2 : (2 : Int) < (m : Int) := by omega
  have i3 : (3 : Int) < (m : Int) := by omega
  clear hs hb0 hb1 hb2 hb3 ho hl hk
  have hv : ((Lib.leNat [b0, b1, b2, b3] : Nat) : Int) = (b0.toNat : Int) + (b1.toNat : Int) * 256 + (b2.toNat : Int) * 65536 + (b3.toNat : Int) * 16777216 := by
    simp only [Lib.leNat]
    omega
  go_enter Tryz.func110, Tryz.ntmps110
  go_wp2_with fail
  go_quiet (fail)
  go_wp2
  refine hR.out _ _ ⟨?_, below_drewN ((Below.refl _ w).alloc (Nat.le_refl _) _) _⟩
  simp (disch := omega) only [u32_or8, u32_or16, u32_or24]
  rw [hv]
  rfl

set_option maxRecDepth 100000 in
set_option maxHeartbeats 2000000 in
theorem u64_at (g o n k m c B oo : Nat) (xs : List UInt8) (w : World) (hs : Sl w B (some ⟨g, o, none⟩) n (bcs xs)) (hk : k + 8 ≤ n) (hm : 8 ≤ m) (ho : oo = o + k) :
    Calls Tryz.prog 111 #[.agg #[], .slice (some ⟨g, oo, none⟩) m c] w fun e w' => e = .returned (.int .u64 (Lib.beNat ((xs.drop k).take 8))) ∧ Below w.heap.size w w' := by
  refine calls_hid fun R hR => ?_
  have hl : xs.length = n := by rw [← bcs_length]; exact hs.1
  rw [take_one_more _ _ _ (by omega), take_one_more _ _ _ (by omega), take_one_more _ _ _ (by omega), take_one_more _ _ _ (by omega), take_one_more _ _ _ (by omega), take_one_more _ _ _ (by omega), take_one_more _ _ _ (by omega), take_one_more _ _ _ (by omega), List.take_zero] at hR
  have c0 := cell_alloc_old (.cells #[] 245) (hs.byte (k := k) (by omega))
  have c1 := cell_alloc_old (.cells #[] 245) (hs.byte (k := k + 1) (by omega))
  have c2 := cell_alloc_old (.cells #[] 245) (hs.byte (k := k + 2) (by omega))
  have c3 := cell_alloc_old (.cells #[] 245) (hs.byte (k := k + 3) (by omega))
  have c4 := cell_alloc_old (.cells #[] 245) (hs.byte (k := k + 4) (by omega))
  have c5 := cell_alloc_old (.cells #[] 245) (hs.byte (k := k + 5) (by omega))
  have c6 := cell_alloc_old (.cells #[] 245) (hs.byte (k := k + 6) (by omega))
  have c7 := cell_alloc_old (.cells #[] 245) (hs.byte (k := k + 7) (by omega))
  rw [← ho] at c0
  rw [← Nat.add_assoc, ← ho] at c1
  rw [← Nat.add_assoc, ← ho] at c2
  rw [← Nat.add_assoc, ← ho] at c3
  rw [← Nat.add_assoc, ← ho] at c4
  rw [← Nat.add_assoc, ← ho] at c5
  rw [← Nat.add_assoc, ← ho] at c6
  rw [← Nat.add_assoc, ← ho] at c7
  simp only [Nat.add_assoc, Nat.reduceAdd] at hR
  generalize hb0 : xs.getD k 0 = b0 at *
  generalize hb1 : xs.getD (k + 1) 0 = b1 at *
  generalize hb2 : xs.getD (k + 2) 0 = b2 at *
  generalize hb3 : xs.getD (k + 3) 0 = b3 at *
  generalize hb4 : xs.getD (k + 4) 0 = b4 at *
  generalize hb5 : xs.getD (k + 5) 0 = b5 at *
  generalize hb6 : xs.getD (k + 6) 0 = b6 at *
  generalize hb7 : xs.getD (k + 7) 0 = b7 at *
  have h0 : (b0.toNat : Int) < 256 := by have := b0.toNat_lt; omega
  have h1 : (b1.toNat : Int) < 256 := by have := b1.toNat_lt; omega
  have h2 : (b2.toNat : Int) < 256 := by have := b2.toNat_lt; omega
  have h3 : (b3.toNat : Int) < 256 := by have := b3.toNat_lt; omega
  have h4 : (b4.toNat : Int) < 256 := by have := b4.toNat_lt; omega
  have h5 : (b5.toNat : Int) < 256 := by have := b5.toNat_lt; omega
  have h6 : (b6.toNat : Int) < 256 := by have := b6.toNat_lt; omega
  have h7 : (b7.toNat : Int) < 256 := by have := b7.toNat_lt; omega
  have i0' : 0 < m := by omega
  have i0 : (0 : Int) < (m : Int) := by omega
  have i1 : (1 : Int) < (m : Int) := by omega
  have i2 : (2 : Int) < (m : Int) := by omega
  have i3 : (3 : Int) < (m : Int) := by omega
  have i4 : (4 : Int) < (m : Int) := by omega
  have i5 : (5 : Int) < (m : Int) := by omega
  have i6 : (6 : Int) < (m : Int) := by omega
  have i7 : (7 : Int) < (m : Int) := by omega
  clear hs hb0 hb1 hb2 hb3 hb4 hb5 hb6 hb7 ho hl hk
  have hv : ((Lib.beNat [b0, b1, b2, b3, b4, b5, b6, b7] : Nat) : Int) = (b7.toNat : Int) + (b6.toNat : Int) * 256 + (b5.toNat : Int) * 65536 + (b4.toNat : Int) * 16777216 + (b3.toNat : Int) * 4294967296 + (b2.toNat : Int) * 1099511627776 + (b1.toNat : Int) * 281474976710656 + (b0.toNat : Int) * 72057594037927936 := by
    simp only [Lib.beNat, Lib.beFrom]
    omega
  go_enter Tryz.func111, Tryz.ntmps111
  go_wp2_with fail
  go_quiet (fail)
  go_wp2
  refine hR.out _ _ ⟨?_, below_drewN ((Below.refl _ w).alloc (Nat.le_refl _) _) _⟩
  simp (disch := omega) only [u64_or8, u64_or16, u64_or24, u64_or32, u64_or40, u64_or48, u64_or56]
  rw [hv]
  rfl

end Go.Proofs.YtphmklgbbpiafaaGreat
