/-
  Contracts of encoding/binary's writers, over a block that is known whole. No condition.
-/
import Derived.Test.YtphmklgbbpiafaaGreatBinA
import Derived.Test.YtphmklgbbpiafaaGreatBufA
namespace Go.Proofs.YtphmklgbbpiafaaGreat
open Go Go.RowKit
set_option linter.unusedVariables false
attribute [local go_sem] sd_drewN ad_drewN

theorem splice_one (cs : List Value) (o : Nat) (v : Value) (h : o < cs.length) : splice cs o [v] = cs.set o v := by
  rw [List.set_eq_take_append_cons_drop, if_pos h]
  rfl
theorem splice_snoc (cs xs : List Value) (o : Nat) (v : Value) (h : o + xs.length < cs.length) : (splice cs o xs).set (o + xs.length) v = splice cs o (xs ++ [v]) := by
  unfold splice
  have h1 : (cs.take o).length = o := by rw [List.length_take]; omega
  rw [List.set_append_right _ _ (by rw [h1]; omega), h1, Nat.add_sub_cancel_left, List.set_append_right _ _ (Nat.le_refl _), Nat.sub_self, List.drop_eq_getElem_cons h, List.set_cons_zero]
  simp [Nat.add_assoc]
theorem splice_length (cs xs : List Value) (o : Nat) (h : o + xs.length ≤ cs.length) : (splice cs o xs).length = cs.length := by
  unfold splice; simp; omega
theorem splice_ahead (aa xs ds cs : List Value) (h : xs.length ≤ ds.length) : splice (aa ++ ds ++ cs) aa.length xs = aa ++ xs ++ (ds.drop xs.length ++ cs) := by
  unfold splice
  rw [List.append_assoc aa ds cs, List.take_left' rfl, ← List.drop_drop, List.drop_left' rfl, List.drop_append_of_le_length h, List.append_assoc]
theorem bcs_cons (b : UInt8) (l : List UInt8) : bcs (b :: l) = .int .u8 (b.toNat : Int) :: bcs l := rfl
theorem bcs_nil : bcs [] = [] := rfl
theorem bcs_one_be (v : Nat) : Value.int .u8 (((v % 256).toUInt8.toNat : Nat) : Int) = Value.int .u8 ((v : Int) % 256) := by
  rw [Lib.toUInt8_mod]; simp
theorem bcs_be1 (E : Int) (h : 0 ≤ E) : bcs (Lib.beBytes 1 E.toNat) = [.int .u8 (E % 256)] := by
  obtain ⟨v, rfl⟩ := Int.eq_ofNat_of_zero_le h
  simp only [Lib.beBytes, Lib.leBytes, List.reverse_cons, List.reverse_nil, List.nil_append, bcs_cons, bcs_nil, Int.toNat_natCast, bcs_one_be]
theorem bcs_be2 (E : Int) (h : 0 ≤ E) : bcs (Lib.beBytes 2 E.toNat) = [.int .u8 (E / 256 % 256), .int .u8 (E % 256)] := by
  obtain ⟨v, rfl⟩ := Int.eq_ofNat_of_zero_le h
  simp only [Lib.beBytes, Lib.leBytes, List.reverse_cons, List.reverse_nil, List.nil_append, List.cons_append, bcs_cons, bcs_nil, Int.toNat_natCast, bcs_one_be, Int.natCast_ediv]
  rfl
theorem bcs_be4 (E : Int) (h : 0 ≤ E) : bcs (Lib.beBytes 4 E.toNat) = [.int .u8 (E / 16777216 % 256), .int .u8 (E / 65536 % 256), .int .u8 (E / 256 % 256), .int .u8 (E % 256)] := by
  obtain ⟨v, rfl⟩ := Int.eq_ofNat_of_zero_le h
  simp only [Lib.beBytes, Lib.leBytes, List.reverse_cons, List.reverse_nil, List.nil_append, List.cons_append, bcs_cons, bcs_nil, Int.toNat_natCast, bcs_one_be, Nat.div_div_eq_div_mul, Nat.reduceMul, Int.natCast_ediv]
  rfl
theorem bcs_le4 (E : Int) (h : 0 ≤ E) : bcs (Lib.leBytes 4 E.toNat) = [.int .u8 (E % 256), .int .u8 (E / 256 % 256), .int .u8 (E / 65536 % 256), .int .u8 (E / 16777216 % 256)] := by
  obtain ⟨v, rfl⟩ := Int.eq_ofNat_of_zero_le h
  simp only [Lib.leBytes, bcs_cons, bcs_nil, Int.toNat_natCast, bcs_one_be, Nat.div_div_eq_div_mul, Nat.reduceMul, Int.natCast_ediv]
  rfl
theorem bcs_be8 (E : Int) (h : 0 ≤ E) : bcs (Lib.beBytes 8 E.toNat) = [.int .u8 (E / 72057594037927936 % 256), .int .u8 (E / 281474976710656 % 256), .int .u8 (E / 1099511627776 % 256), .int .u8 (E / 4294967296 % 256), .int .u8 (E / 16777216 % 256), .int .u8 (E / 65536 % 256), .int .u8 (E / 256 % 256), .int .u8 (E % 256)] := by
  obtain ⟨v, rfl⟩ := Int.eq_ofNat_of_zero_le h
  simp only [Lib.beBytes, Lib.leBytes, List.reverse_cons, List.reverse_nil, List.nil_append, List.cons_append, bcs_cons, bcs_nil, Int.toNat_natCast, bcs_one_be, Nat.div_div_eq_div_mul, Nat.reduceMul, Int.natCast_ediv]
  rfl

set_option maxRecDepth 100000 in
set_option maxHeartbeats 2000000 in
theorem put16_at (g o m c : Nat) (cs : List Value) (E : Int) (w : World) (hb : Bk w g 5 cs) (ho : o + 2 ≤ cs.length) (hm : 2 ≤ m) (hE : 0 ≤ E) (hE2 : E < 65536) :
    Calls Tryz.prog 131 #[.agg #[], .slice (some ⟨g, o, none⟩) m c, .int .u16 E] w fun e w' => e = .returned (.tuple #[]) ∧ Bk w' g 5 (splice cs o (bcs (Lib.beBytes 2 E.toNat))) ∧ w.grownBy w' (some g) := by
  refine calls_hid fun R hR => ?_
  have hg := hb.lt
  have c0 : w.cell? ⟨g, o, none⟩ = some _ := (hb.cell (o)).trans (List.getElem?_eq_getElem (by omega))
  generalize cs[o] = u0 at c0
  have f0 := hb.frozen (o)
  have c1 : w.cell? ⟨g, o + 1, none⟩ = some _ := (hb.cell (o + 1)).trans (List.getElem?_eq_getElem (by omega))
  generalize cs[o + 1] = u1 at c1
  have f1 := hb.frozen (o + 1)
  have i0' : 0 < m := by omega
  have i0 : (0 : Int) < (m : Int) := by omega
  have i1 : (1 : Int) < (m : Int) := by omega
  have hv : bcs (Lib.beBytes 2 E.toNat) = [(.int .u8 (E / 256 % 256)), (.int .u8 (E % 256))] := bcs_be2 E hE
  rw [hv] at hR
  have hs : splice cs o [(.int .u8 (E / 256 % 256)), (.int .u8 (E % 256))] = ((cs.set o (.int .u8 (E / 256 % 256))).set (o + 1) (.int .u8 (E % 256))) := by
    rw [show cs.set o (.int .u8 (E / 256 % 256)) = splice cs o [(.int .u8 (E / 256 % 256))] from by rw [splice_one _ _ _ (by omega)], show (splice cs o [(.int .u8 (E / 256 % 256))]).set (o + 1) (.int .u8 (E % 256)) = splice cs o [(.int .u8 (E / 256 % 256)), (.int .u8 (E % 256))] from by exact splice_snoc cs [(.int .u8 (E / 256 % 256))] o _ (by simp; omega)]
  rw [hs] at hR
  have HB := Lib.hid hb
  clear hb hv hs ho hE hE2
  go_enter Tryz.func131, Tryz.ntmps131
  go_wp2_with fail
  go_end0
  refine hR.out _ _ ⟨rfl, ?_, ?_⟩
  · refine Bk.alloc ?_ _
    iterate 2 refine Bk.set_ ?_ _ _
    exact HB.out
  · refine only_alloc ?_ _
    iterate 2 refine only_set ?_ (.inl rfl) _
    exact grownBy_refl' _ _

set_option maxRecDepth 100000 in
set_option maxHeartbeats 2000000 in
theorem put32_at (g o m c : Nat) (cs : List Value) (E : Int) (w : World) (hb : Bk w g 5 cs) (ho : o + 4 ≤ cs.length) (hm : 4 ≤ m) (hE : 0 ≤ E) (hE2 : E < 4294967296) :
    Calls Tryz.prog 158 #[.agg #[], .slice (some ⟨g, o, none⟩) m c, .int .u32 E] w fun e w' => e = .returned (.tuple #[]) ∧ Bk w' g 5 (splice cs o (bcs (Lib.beBytes 4 E.toNat))) ∧ w.grownBy w' (some g) := by
  refine calls_hid fun R hR => ?_
  have hg := hb.lt
  have c0 : w.cell? ⟨g, o, none⟩ = some _ := (hb.cell (o)).trans (List.getElem?_eq_getElem (by omega))
  generalize cs[o] = u0 at c0
  have f0 := hb.frozen (o)
  have c1 : w.cell? ⟨g, o + 1, none⟩ = some _ := (hb.cell (o + 1)).trans (List.getElem?_eq_getElem (by omega))
  generalize cs[o + 1] = u1 at c1
  have f1 := hb.frozen (o + 1)
  have c2 : w.cell? ⟨g, o + 2, none⟩ = some _ := (hb.cell (o + 2)).trans (List.getElem?_eq_getElem (by omega))
  generalize cs[o + 2] = u2 at c2
  have f2 := hb.frozen (o + 2)
  have c3 : w.cell? ⟨g, o + 3, none⟩ = some _ := (hb.cell (o + 3)).trans (List.getElem?_eq_getElem (by omega))
  generalize cs[o + 3] = u3 at c3
  have f3 := hb.frozen (o + 3)
  have i0' : 0 < m := by omega
  have i0 : (0 : Int) < (m : Int) := by omega
  have i1 : (1 : Int) < (m : Int) := by omega
  have i2 : (2 : Int) < (m : Int) := by omega
  have i3 : (3 : Int) < (m : Int) := by omega
  have hv : bcs (Lib.beBytes 4 E.toNat) = [(.int .u8 (E / 16777216 % 256)), (.int .u8 (E / 65536 % 256)), (.int .u8 (E / 256 % 256)), (.int .u8 (E % 256))] := bcs_be4 E hE
  rw [hv] at hR
  have hs : splice cs o [(.int .u8 (E / 16777216 % 256)), (.int .u8 (E / 65536 % 256)), (.int .u8 (E / 256 % 256)), (.int .u8 (E % 256))] = ((((cs.set o (.int .u8 (E / 16777216 % 256))).set (o + 1) (.int .u8 (E / 65536 % 256))).set (o + 2) (.int .u8 (E / 256 % 256))).set (o + 3) (.int .u8 (E % 256))) := by
    rw [show cs.set o (.int .u8 (E / 16777216 % 256)) = splice cs o [(.int .u8 (E / 16777216 % 256))] from by rw [splice_one _ _ _ (by omega)], show (splice cs o [(.int .u8 (E / 16777216 % 256))]).set (o + 1) (.int .u8 (E / 65536 % 256)) = splice cs o [(.int .u8 (E / 16777216 % 256)), (.int .u8 (E / 65536 % 256))] from by exact splice_snoc cs [(.int .u8 (E / 16777216 % 256))] o _ (by simp; omega), show (splice cs o [(.int .u8 (E / 16777216 % 256)),(.int .u8 (E / 65536 % 256))]).set (o + 2) (.int .u8 (E / 256 % 256)) = splice cs o [(.int .u8 (E / 16777216 % 256)), (.int .u8 (E / 65536 % 256)), (.int .u8 (E / 256 % 256))] from by exact splice_snoc cs [(.int .u8 (E / 16777216 % 256)), (.int .u8 (E / 65536 % 256))] o _ (by simp; omega), show (splice cs o [(.int .u8 (E / 16777216 % 256)),(.int .u8 (E / 65536 % 256)),(.int .u8 (E / 256 % 256))]).set (o + 3) (.int .u8 (E % 256)) = splice cs o [(.int .u8 (E / 16777216 % 256)), (.int .u8 (E / 65536 % 256)), (.int .u8 (E / 256 % 256)), (.int .u8 (E % 256))] from by exact splice_snoc cs [(.int .u8 (E / 16777216 % 256)), (.int .u8 (E / 65536 % 256)), (.int .u8 (E / 256 % 256))] o _ (by simp; omega)]
  rw [hs] at hR
  have HB := Lib.hid hb
  clear hb hv hs ho hE hE2
  go_enter Tryz.func158, Tryz.ntmps158
  go_wp2_with fail
  go_end0
  refine hR.out _ _ ⟨rfl, ?_, ?_⟩
  · refine Bk.alloc ?_ _
    iterate 4 refine Bk.set_ ?_ _ _
    exact HB.out
  · refine only_alloc ?_ _
    iterate 4 refine only_set ?_ (.inl rfl) _
    exact grownBy_refl' _ _

set_option maxRecDepth 100000 in
set_option maxHeartbeats 2000000 in
theorem putl32_at (g o m c : Nat) (cs : List Value) (E : Int) (w : World) (hb : Bk w g 5 cs) (ho : o + 4 ≤ cs.length) (hm : 4 ≤ m) (hE : 0 ≤ E) (hE2 : E < 4294967296) :
    Calls Tryz.prog 143 #[.agg #[], .slice (some ⟨g, o, none⟩) m c, .int .u32 E] w fun e w' => e = .returned (.tuple #[]) ∧ Bk w' g 5 (splice cs o (bcs (Lib.leBytes 4 E.toNat))) ∧ w.grownBy w' (some g) := by
  refine calls_hid fun R hR => ?_
  have hg := hb.lt
  have c0 : w.cell? ⟨g, o, none⟩ = some _ := (hb.cell (o)).trans (List.getElem?_eq_getElem (by omega))
  generalize cs[o] = u0 at c0
  have f0 := hb.frozen (o)
  have c1 : w.cell? ⟨g, o + 1, none⟩ = some _ := (hb.cell (o + 1)).trans (List.getElem?_eq_getElem (by omega))
  generalize cs[o + 1] = u1 at c1
  have f1 := hb.frozen (o + 1)
  have c2 : w.cell? ⟨g, o + 2, none⟩ = some _ := (hb.cell (o + 2)).trans (List.getElem?_eq_getElem (by omega))
  generalize cs[o + 2] = u2 at c2
  have f2 := hb.frozen (o + 2)
  have c3 : w.cell? ⟨g, o + 3, none⟩ = some _ := (hb.cell (o + 3)).trans (List.getElem?_eq_getElem (by omega))
  generalize cs[o + 3] = u3 at c3
  have f3 := hb.frozen (o + 3)
  have i0' : 0 < m := by omega
  have i0 : (0 : Int) < (m : Int) := by omega
  have i1 : (1 : Int) < (m : Int) := by omega
  have i2 : (2 : Int) < (m : Int) := by omega
  have i3 : (3 : Int) < (m : Int) := by omega
  have hv : bcs (Lib.leBytes 4 E.toNat) = [(.int .u8 (E % 256)), (.int .u8 (E / 256 % 256)), (.int .u8 (E / 65536 % 256)), (.int .u8 (E / 16777216 % 256))] := bcs_le4 E hE
  rw [hv] at hR
  have hs : splice cs o [(.int .u8 (E % 256)), (.int .u8 (E / 256 % 256)), (.int .u8 (E / 65536 % 256)), (.int .u8 (E / 16777216 % 256))] = ((((cs.set o (.int .u8 (E % 256))).set (o + 1) (.int .u8 (E / 256 % 256))).set (o + 2) (.int .u8 (E / 65536 % 256))).set (o + 3) (.int .u8 (E / 16777216 % 256))) := by
    rw [show cs.set o (.int .u8 (E % 256)) = splice cs o [(.int .u8 (E % 256))] from by rw [splice_one _ _ _ (by omega)], show (splice cs o [(.int .u8 (E % 256))]).set (o + 1) (.int .u8 (E / 256 % 256)) = splice cs o [(.int .u8 (E % 256)), (.int .u8 (E / 256 % 256))] from by exact splice_snoc cs [(.int .u8 (E % 256))] o _ (by simp; omega), show (splice cs o [(.int .u8 (E % 256)),(.int .u8 (E / 256 % 256))]).set (o + 2) (.int .u8 (E / 65536 % 256)) = splice cs o [(.int .u8 (E % 256)), (.int .u8 (E / 256 % 256)), (.int .u8 (E / 65536 % 256))] from by exact splice_snoc cs [(.int .u8 (E % 256)), (.int .u8 (E / 256 % 256))] o _ (by simp; omega), show (splice cs o [(.int .u8 (E % 256)),(.int .u8 (E / 256 % 256)),(.int .u8 (E / 65536 % 256))]).set (o + 3) (.int .u8 (E / 16777216 % 256)) = splice cs o [(.int .u8 (E % 256)), (.int .u8 (E / 256 % 256)), (.int .u8 (E / 65536 % 256)), (.int .u8 (E / 16777216 % 256))] from by exact splice_snoc cs [(.int .u8 (E % 256)), (.int .u8 (E / 256 % 256)), (.int .u8 (E / 65536 % 256))] o _ (by simp; omega)]
  rw [hs] at hR
  have HB := Lib.hid hb
  clear hb hv hs ho hE hE2
  go_enter Tryz.func143, Tryz.ntmps143
  go_wp2_with fail
  go_end0
  refine hR.out _ _ ⟨rfl, ?_, ?_⟩
  · refine Bk.alloc ?_ _
    iterate 4 refine Bk.set_ ?_ _ _
    exact HB.out
  · refine only_alloc ?_ _
    iterate 4 refine only_set ?_ (.inl rfl) _
    exact grownBy_refl' _ _

set_option maxRecDepth 100000 in
set_option maxHeartbeats 2000000 in
theorem put64_at (g o m c : Nat) (cs : List Value) (E : Int) (w : World) (hb : Bk w g 5 cs) (ho : o + 8 ≤ cs.length) (hm : 8 ≤ m) (hE : 0 ≤ E) (hE2 : E < 18446744073709551616) :
    Calls Tryz.prog 152 #[.agg #[], .slice (some ⟨g, o, none⟩) m c, .int .u64 E] w fun e w' => e = .returned (.tuple #[]) ∧ Bk w' g 5 (splice cs o (bcs (Lib.beBytes 8 E.toNat))) ∧ w.grownBy w' (some g) := by
  refine calls_hid fun R hR => ?_
  have hg := hb.lt
  have c0 : w.cell? ⟨g, o, none⟩ = some _ := (hb.cell (o)).trans (List.getElem?_eq_getElem (by omega))
  generalize cs[o] = u0 at c0
  have f0 := hb.frozen (o)
  have c1 : w.cell? ⟨g, o + 1, none⟩ = some _ := (hb.cell (o + 1)).trans (List.getElem?_eq_getElem (by omega))
  generalize cs[o + 1] = u1 at c1
  have f1 := hb.frozen (o + 1)
  have c2 : w.cell? ⟨g, o + 2, none⟩ = some _ := (hb.cell (o + 2)).trans (List.getElem?_eq_getElem (by omega))
  generalize cs[o + 2] = u2 at c2
  have f2 := hb.frozen (o + 2)
  have c3 : w.cell? ⟨g, o + 3, none⟩ = some _ := (hb.cell (o + 3)).trans (List.getElem?_eq_getElem (by omega))
  generalize cs[o + 3] = u3 at c3
  have f3 := hb.frozen (o + 3)
  have c4 : w.cell? ⟨g, o + 4, none⟩ = some _ := (hb.cell (o + 4)).trans (List.getElem?_eq_getElem (by omega))
  generalize cs[o + 4] = u4 at c4
  have f4 := hb.frozen (o + 4)
  have c5 : w.cell? ⟨g, o + 5, none⟩ = some _ := (hb.cell (o + 5)).trans (List.getElem?_eq_getElem (by omega))
  generalize cs[o + 5] = u5 at c5
  have f5 := hb.frozen (o + 5)
  have c6 : w.cell? ⟨g, o + 6, none⟩ = some _ := (hb.cell (o + 6)).trans (List.getElem?_eq_getElem (by omega))
  generalize cs[o + 6] = u6 at c6
  have f6 := hb.frozen (o + 6)
  have c7 : w.cell? ⟨g, o + 7, none⟩ = some _ := (hb.cell (o + 7)).trans (List.getElem?_eq_getElem (by omega))
  generalize cs[o + 7] = u7 at c7
  have f7 := hb.frozen (o + 7)
  have i0' : 0 < m := by omega
  have i0 : (0 : Int) < (m : Int) := by omega
  have i1 : (1 : Int) < (m : Int) := by omega
  have i2 : (2 : Int) < (m : Int) := by omega
  have i3 : (3 : Int) < (m : Int) := by omega
  have i4 : (4 : Int) < (m : Int) := by omega
  have i5 : (5 : Int) < (m : Int) := by omega
  have i6 : (6 : Int) < (m : Int) := by omega
  have i7 : (7 : Int) < (m : Int) := by omega
  have hv : bcs (Lib.beBytes 8 E.toNat) = [(.int .u8 (E / 72057594037927936 % 256)), (.int .u8 (E / 281474976710656 % 256)), (.int .u8 (E / 1099511627776 % 256)), (.int .u8 (E / 4294967296 % 256)), (.int .u8 (E / 16777216 % 256)), (.int .u8 (E / 65536 % 256)), (.int .u8 (E / 256 % 256)), (.int .u8 (E % 256))] := bcs_be8 E hE
  rw [hv] at hR
  have hs : splice cs o [(.int .u8 (E / 72057594037927936 % 256)), (.int .u8 (E / 281474976710656 % 256)), (.int .u8 (E / 1099511627776 % 256)), (.int .u8 (E / 4294967296 % 256)), (.int .u8 (E / 16777216 % 256)), (.int .u8 (E / 65536 % 256)), (.int .u8 (E / 256 % 256)), (.int .u8 (E % 256))] = ((((((((cs.set o (.int .u8 (E / 72057594037927936 % 256))).set (o + 1) (.int .u8 (E / 281474976710656 % 256))).set (o + 2) (.int .u8 (E / 1099511627776 % 256))).set (o + 3) (.int .u8 (E / 4294967296 % 256))).set (o + 4) (.int .u8 (E / 16777216 % 256))).set (o + 5) (.int .u8 (E / 65536 % 256))).set (o + 6) (.int .u8 (E / 256 % 256))).set (o + 7) (.int .u8 (E % 256))) := by
    rw [show cs.set o (.int .u8 (E / 72057594037927936 % 256)) = splice cs o [(.int .u8 (E / 72057594037927936 % 256))] from by rw [splice_one _ _ _ (by omega)], show (splice cs o [(.int .u8 (E / 72057594037927936 % 256))]).set (o + 1) (.int .u8 (E / 281474976710656 % 256)) = splice cs o [(.int .u8 (E / 72057594037927936 % 256)), (.int .u8 (E / 281474976710656 % 256))] from by exact splice_snoc cs [(.int .u8 (E / 72057594037927936 % 256))] o _ (by simp; omega), show (splice cs o [(.int .u8 (E / 72057594037927936 % 256)),(.int .u8 (E / 281474976710656 % 256))]).set (o + 2) (.int .u8 (E / 1099511627776 % 256)) = splice cs o [(.int .u8 (E / 72057594037927936 % 256)), (.int .u8 (E / 281474976710656 % 256)), (.int .u8 (E / 1099511627776 % 256))] from by exact splice_snoc cs [(.int .u8 (E / 72057594037927936 % 256)), (.int .u8 (E / 281474976710656 % 256))] o _ (by simp; omega), show (splice cs o [(.int .u8 (E / 72057594037927936 % 256)),(.int .u8 (E / 281474976710656 % 256)),(.int .u8 (E / 1099511627776 % 256))]).set (o + 3) (.int .u8 (E / 4294967296 % 256)) = splice cs o [(.int .u8 (E / 72057594037927936 % 256)), (.int .u8 (E / 281474976710656 % 256)), (.int .u8 (E / 1099511627776 % 256)), (.int .u8 (E / 4294967296 % 256))] from by exact splice_snoc cs [(.int .u8 (E / 72057594037927936 % 256)), (.int .u8 (E / 281474976710656 % 256)), (.int .u8 (E / 1099511627776 % 256))] o _ (by simp; omega), show (splice cs o [(.int .u8 (E / 72057594037927936 % 256)),(.int .u8 (E / 281474976710656 % 256)),(.int .u8 (E / 1099511627776 % 256)),(.int .u8 (E / 4294967296 % 256))]).set (o + 4) (.int .u8 (E / 16777216 % 256)) = splice cs o [(.int .u8 (E / 72057594037927936 % 256)), (.int .u8 (E / 281474976710656 % 256)), (.int .u8 (E / 1099511627776 % 256)), (.int .u8 (E / 4294967296 % 256)), (.int .u8 (E / 16777216 % 256))] from by exact splice_snoc cs [(.int .u8 (E / 72057594037927936 % 256)), (.int .u8 (E / 281474976710656 % 256)), (.int .u8 (E / 1099511627776 % 256)), (.int .u8 (E / 4294967296 % 256))] o _ (by simp; omega), show (splice cs o [(.int .u8 (E / 72057594037927936 % 256)),(.int .u8 (E / 281474976710656 % 256)),(.int .u8 (E / 1099511627776 % 256)),(.int .u8 (E / 4294967296 % 256)),(.int .u8 (E / 16777216 % 256))]).set (o + 5) (.int .u8 (E / 65536 % 256)) = splice cs o [(.int .u8 (E / 72057594037927936 % 256)), (.int .u8 (E / 281474976710656 % 256)), (.int .u8 (E / 1099511627776 % 256)), (.int .u8 (E / 4294967296 % 256)), (.int .u8 (E / 16777216 % 256)), (.int .u8 (E / 65536 % 256))] from by exact splice_snoc cs [(.int .u8 (E / 72057594037927936 % 256)), (.int .u8 (E / 281474976710656 % 256)), (.int .u8 (E / 1099511627776 % 256)), (.int .u8 (E / 4294967296 % 256)), (.int .u8 (E / 16777216 % 256))] o _ (by simp; omega), show (splice cs o [(.int .u8 (E / 72057594037927936 % 256)),(.int .u8 (E / 281474976710656 % 256)),(.int .u8 (E / 1099511627776 % 256)),(.int .u8 (E / 4294967296 % 256)),(.int .u8 (E / 16777216 % 256)),(.int .u8 (E / 65536 % 256))]).set (o + 6) (.int .u8 (E / 256 % 256)) = splice cs o [(.int .u8 (E / 72057594037927936 % 256)), (.int .u8 (E / 281474976710656 % 256)), (.int .u8 (E / 1099511627776 % 256)), (.int .u8 (E / 4294967296 % 256)), (.int .u8 (E / 16777216 % 256)), (.int .u8 (E / 65536 % 256)), (.int .u8 (E / 256 % 256))] from by exact splice_snoc cs [(.int .u8 (E / 72057594037927936 % 256)), (.int .u8 (E / 281474976710656 % 256)), (.int .u8 (E / 1099511627776 % 256)), (.int .u8 (E / 4294967296 % 256)), (.int .u8 (E / 16777216 % 256)), (.int .u8 (E / 65536 % 256))] o _ (by simp; omega), show (splice cs o [(.int .u8 (E / 72057594037927936 % 256)),(.int .u8 (E / 281474976710656 % 256)),(.int .u8 (E / 1099511627776 % 256)),(.int .u8 (E / 4294967296 % 256)),(.int .u8 (E / 16777216 % 256)),(.int .u8 (E / 65536 % 256)),(.int .u8 (E / 256 % 256))]).set (o + 7) (.int .u8 (E % 256)) = splice cs o [(.int .u8 (E / 72057594037927936 % 256)), (.int .u8 (E / 281474976710656 % 256)), (.int .u8 (E / 1099511627776 % 256)), (.int .u8 (E / 4294967296 % 256)), (.int .u8 (E / 16777216 % 256)), (.int .u8 (E / 65536 % 256)), (.int .u8 (E / 256 % 256)), (.int .u8 (E % 256))] from by exact splice_snoc cs [(.int .u8 (E / 72057594037927936 % 256)), (.int .u8 (E / 281474976710656 % 256)), (.int .u8 (E / 1099511627776 % 256)), (.int .u8 (E / 4294967296 % 256)), (.int .u8 (E / 16777216 % 256)), (.int .u8 (E / 65536 % 256)), (.int .u8 (E / 256 % 256))] o _ (by simp; omega)]
  rw [hs] at hR
  have HB := Lib.hid hb
  clear hb hv hs ho hE hE2
  go_enter Tryz.func152, Tryz.ntmps152
  go_wp2_with fail
  go_end0
  refine hR.out _ _ ⟨rfl, ?_, ?_⟩
  · refine Bk.alloc ?_ _
    iterate 8 refine Bk.set_ ?_ _ _
    exact HB.out
  · refine only_alloc ?_ _
    iterate 8 refine only_set ?_ (.inl rfl) _
    exact grownBy_refl' _ _

end Go.Proofs.YtphmklgbbpiafaaGreat
