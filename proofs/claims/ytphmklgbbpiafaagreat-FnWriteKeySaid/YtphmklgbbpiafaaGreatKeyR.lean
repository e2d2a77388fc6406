/-
  Key: the reference's reader. No condition.
-/
import Derived.Deep.RegionHeld3
import Derived.Deep.Cut
import Derived.Deep.CutRange
import Derived.Test.YtphmklgbbpiafaaGreatSrdB
import Derived.Test.YtphmklgbbpiafaaGreatLayA
import Derived.Test.YtphmklgbbpiafaaGreatWritB
import Derived.Test.YtphmklgbbpiafaaGreatBitA
import Derived.Test.YtphmklgbbpiafaaGreatCutD
namespace Go.Proofs.YtphmklgbbpiafaaGreat
open Go Go.RowKit
set_option linter.unusedVariables false
set_option linter.unusedSimpArgs false
attribute [local go_sem] sd_drewN ad_drewN
set_option maxRecDepth 1000000 in
set_option maxHeartbeats 100000000 in
theorem srd_key_all (xs : List UInt8) (h4 : 95 ≤ xs.length) (hn : xs.length ≤ 1000) : ∀ (A : Option Addr) (n c B0 B1 : Nat) (w : World), Sl w B0 A n (bcs xs) → B0 ≤ w.heap.size → B1 ≤ w.heap.size → n ≤ c →
    Calls Tryz.prog 49 #[.slice A n c] w fun e w' => (xs.length - 95 < Lib.beNat ((xs.drop 93).take 2) → e = .returned (.tuple #[.agg #[.slice none 0 0, .slice none 0 0, .slice none 0 0, .slice none 0 0], .bool false, .bool true]) ∧ Below w.heap.size w w') ∧
      (Lib.beNat ((xs.drop 93).take 2) ≤ xs.length - 95 → Lib.beNat ((xs.drop 1).take 2) / 4096 % 2 = 0 → ∃ v, e = .returned (.tuple #[v, .bool true, .bool true]) ∧ Below w.heap.size w w' ∧ LyrF w' w'.heap.size B0 B1 v [(xs.getD 0 0).toNat, Lib.beNat ((xs.drop 1).take 2) % 8, Lib.beNat ((xs.drop 1).take 2) / 8 % 2, Lib.beNat ((xs.drop 1).take 2) / 16 % 4, Lib.beNat ((xs.drop 1).take 2) / 64 % 2, Lib.beNat ((xs.drop 1).take 2) / 128 % 2, Lib.beNat ((xs.drop 1).take 2) / 256 % 2, Lib.beNat ((xs.drop 1).take 2) / 512 % 2, Lib.beNat ((xs.drop 1).take 2) / 1024 % 2, Lib.beNat ((xs.drop 1).take 2) / 2048 % 2, Lib.beNat ((xs.drop 1).take 2) / 4096 % 2, Lib.beNat ((xs.drop 1).take 2) / 8192 % 2, Lib.beNat ((xs.drop 3).take 2), Lib.beNat ((xs.drop 5).take 8), Lib.beNat ((xs.drop 61).take 8), Lib.beNat ((xs.drop 69).take 8), Lib.beNat ((xs.drop 93).take 2)] [(xs.drop 13).take 32, (xs.drop 45).take 16, (xs.drop 77).take 16, []] (xs.drop 95)) ∧
      (Lib.beNat ((xs.drop 93).take 2) ≤ xs.length - 95 → Lib.beNat ((xs.drop 1).take 2) / 4096 % 2 = 1 → ∃ v, e = .returned (.tuple #[v, .bool true, .bool true]) ∧ Below w.heap.size w w' ∧ LyrF w' w'.heap.size B0 B1 v [(xs.getD 0 0).toNat, Lib.beNat ((xs.drop 1).take 2) % 8, Lib.beNat ((xs.drop 1).take 2) / 8 % 2, Lib.beNat ((xs.drop 1).take 2) / 16 % 4, Lib.beNat ((xs.drop 1).take 2) / 64 % 2, Lib.beNat ((xs.drop 1).take 2) / 128 % 2, Lib.beNat ((xs.drop 1).take 2) / 256 % 2, Lib.beNat ((xs.drop 1).take 2) / 512 % 2, Lib.beNat ((xs.drop 1).take 2) / 1024 % 2, Lib.beNat ((xs.drop 1).take 2) / 2048 % 2, Lib.beNat ((xs.drop 1).take 2) / 4096 % 2, Lib.beNat ((xs.drop 1).take 2) / 8192 % 2, Lib.beNat ((xs.drop 3).take 2), Lib.beNat ((xs.drop 5).take 8), Lib.beNat ((xs.drop 61).take 8), Lib.beNat ((xs.drop 69).take 8), Lib.beNat ((xs.drop 93).take 2)] [(xs.drop 13).take 32, (xs.drop 45).take 16, (xs.drop 77).take 16, (xs.drop 95).take (Lib.beNat ((xs.drop 93).take 2))] (xs.drop (95 + Lib.beNat ((xs.drop 93).take 2)))) := by
  intro A n c B0 B1 w hs hB0 hB1 hnc
  refine calls_hid fun R hR => ?_
  have hl : xs.length = n := by rw [← bcs_length]; exact hs.1
  rw [hl] at h4 hn
  obtain ⟨g, o, rfl, hg, _⟩ := hs.2 (by omega)
  have hgw : g < w.heap.size := by omega
  have b0 := (xs.getD 0 0).toNat_lt
  have x0 : w.cell? ⟨g, o, none⟩ = some (.int .u8 (xs.getD 0 0).toNat) := hs.byte (k := 0) (by omega)
  have z0 : 0 < n := by omega
  have i0 : (0 : Int) < (n : Int) := by omega
  rw [hl] at hR
  obtain ⟨A95, cut95, cs95, cf95⟩ := cut_from g o n c 95 95 rfl (by omega) hnc
  have hpl := cs95 w B0 _ hs
  have hm1 : Sl w B0 (some ⟨g, o + 1, none⟩) 2 (bcs ((xs.drop 1).take 2)) := (hs.drop_ (k := 1) (by omega)).take_ (by omega)
  have HM1 := Lib.hid hm1
  have HV1 := HM1
  clear hm1
  have jz1 : ¬ (c : Int) = 1 := by omega
  have jy1 : ¬ c = 1 := by omega
  have jc3 : (3 : Int) ≤ (c : Int) := by omega
  have hm3 : Sl w B0 (some ⟨g, o + 3, none⟩) 2 (bcs ((xs.drop 3).take 2)) := (hs.drop_ (k := 3) (by omega)).take_ (by omega)
  have HM3 := Lib.hid hm3
  have HV3 := HM3
  clear hm3
  have jz3 : ¬ (c : Int) = 3 := by omega
  have jy3 : ¬ c = 3 := by omega
  have jc5 : (5 : Int) ≤ (c : Int) := by omega
  have hm5 : Sl w B0 (some ⟨g, o + 5, none⟩) 8 (bcs ((xs.drop 5).take 8)) := (hs.drop_ (k := 5) (by omega)).take_ (by omega)
  have HM5 := Lib.hid hm5
  have HV5 := HM5
  clear hm5
  have jz5 : ¬ (c : Int) = 5 := by omega
  have jy5 : ¬ c = 5 := by omega
  have jc13 : (13 : Int) ≤ (c : Int) := by omega
  have hm61 : Sl w B0 (some ⟨g, o + 61, none⟩) 8 (bcs ((xs.drop 61).take 8)) := (hs.drop_ (k := 61) (by omega)).take_ (by omega)
  have HM61 := Lib.hid hm61
  have HV61 := HM61
  clear hm61
  have jz61 : ¬ (c : Int) = 61 := by omega
  have jy61 : ¬ c = 61 := by omega
  have jc69 : (69 : Int) ≤ (c : Int) := by omega
  have hm69 : Sl w B0 (some ⟨g, o + 69, none⟩) 8 (bcs ((xs.drop 69).take 8)) := (hs.drop_ (k := 69) (by omega)).take_ (by omega)
  have HM69 := Lib.hid hm69
  have HV69 := HM69
  clear hm69
  have jz69 : ¬ (c : Int) = 69 := by omega
  have jy69 : ¬ c = 69 := by omega
  have jc77 : (77 : Int) ≤ (c : Int) := by omega
  have hm93 : Sl w B0 (some ⟨g, o + 93, none⟩) 2 (bcs ((xs.drop 93).take 2)) := (hs.drop_ (k := 93) (by omega)).take_ (by omega)
  have HM93 := Lib.hid hm93
  have HV93 := HM93
  clear hm93
  have jz93 : ¬ (c : Int) = 93 := by omega
  have jy93 : ¬ c = 93 := by omega
  have jc95 : (95 : Int) ≤ (c : Int) := by omega
  have hN1 : Lib.beNat ((xs.drop 1).take 2) < 65536 := beNat_take _ 2
  generalize hNN1 : Lib.beNat ((xs.drop 1).take 2) = N1 at *
  have HNN1 := Lib.hid hNN1
  clear hNN1
  have hN3 : Lib.beNat ((xs.drop 3).take 2) < 65536 := beNat_take _ 2
  generalize hNN3 : Lib.beNat ((xs.drop 3).take 2) = N3 at *
  have HNN3 := Lib.hid hNN3
  clear hNN3
  have hN5 : Lib.beNat ((xs.drop 5).take 8) < 18446744073709551616 := beNat_take _ 8
  generalize hNN5 : Lib.beNat ((xs.drop 5).take 8) = N5 at *
  have HNN5 := Lib.hid hNN5
  clear hNN5
  have hN61 : Lib.beNat ((xs.drop 61).take 8) < 18446744073709551616 := beNat_take _ 8
  generalize hNN61 : Lib.beNat ((xs.drop 61).take 8) = N61 at *
  have HNN61 := Lib.hid hNN61
  clear hNN61
  have hN69 : Lib.beNat ((xs.drop 69).take 8) < 18446744073709551616 := beNat_take _ 8
  generalize hNN69 : Lib.beNat ((xs.drop 69).take 8) = N69 at *
  have HNN69 := Lib.hid hNN69
  clear hNN69
  have hN93 : Lib.beNat ((xs.drop 93).take 2) < 65536 := beNat_take _ 2
  generalize hNN93 : Lib.beNat ((xs.drop 93).take 2) = N93 at *
  have HNN93 := Lib.hid hNN93
  clear hNN93
  generalize (xs.getD 0 0).toNat = a0 at *
  have lt3 : N1 / 8 % 2 < 2 := by omega
  have lt6 : N1 / 64 % 2 < 2 := by omega
  have lt7 : N1 / 128 % 2 < 2 := by omega
  have lt8 : N1 / 256 % 2 < 2 := by omega
  have lt9 : N1 / 512 % 2 < 2 := by omega
  have lt10 : N1 / 1024 % 2 < 2 := by omega
  have lt11 : N1 / 2048 % 2 < 2 := by omega
  have lt12 : N1 / 4096 % 2 < 2 := by omega
  have lt13 : N1 / 8192 % 2 < 2 := by omega
  have q7 : bits .and .u64 (N1 : Int) 7 = ((N1 % 8 : Nat) : Int) := by rw [and64_7 _ (by omega) (by omega)]; omega
  have q3 : bits .and .u64 ((N1 : Int) / 16) 3 = ((N1 / 16 % 4 : Nat) : Int) := by rw [and64_3 _ (by omega) (by omega)]; omega
  have p1 : N1 % 8 < 8 := by omega
  have p3 : N1 / 16 % 4 < 4 := by omega
  generalize hr3 : N1 / 8 % 2 = r3 at *
  have R3 := Lib.hid hr3
  generalize hr6 : N1 / 64 % 2 = r6 at *
  have R6 := Lib.hid hr6
  generalize hr7 : N1 / 128 % 2 = r7 at *
  have R7 := Lib.hid hr7
  generalize hr8 : N1 / 256 % 2 = r8 at *
  have R8 := Lib.hid hr8
  generalize hr9 : N1 / 512 % 2 = r9 at *
  have R9 := Lib.hid hr9
  generalize hr10 : N1 / 1024 % 2 = r10 at *
  have R10 := Lib.hid hr10
  generalize hr11 : N1 / 2048 % 2 = r11 at *
  have R11 := Lib.hid hr11
  generalize hr12 : N1 / 4096 % 2 = r12 at *
  have R12 := Lib.hid hr12
  generalize hr13 : N1 / 8192 % 2 = r13 at *
  have R13 := Lib.hid hr13
  clear hr3 hr6 hr7 hr8 hr9 hr10 hr11 hr12 hr13
  generalize N1 % 8 = m1 at *
  generalize N1 / 16 % 4 = m3 at *
  have u0 : IntKind.u64.wrap (a0 : Int) = a0 := IntWalk.u64_in _ (by omega)
  have un : IntKind.u64.wrap (N93 : Int) = N93 := IntWalk.u64_in _ (by omega)
  have vn : IntKind.i64.wrap (N93 : Int) = N93 := IntWalk.i64_in _ (by omega)
  have v95 : IntKind.i64.wrap (95 + (N93 : Int)) = 95 + N93 := IntWalk.i64_in _ (by omega)
  have hmf : ∀ (fn : Fn) (first cap : Array Value) (w : World), (Instr.makeFunc fn first cap).run Tryz.prog w = .ok (.func fn first cap) w := fun _ _ _ _ => rfl
  have jn95 : (95 : Int) ≤ (n : Int) := by omega
  have jc45 : (45 : Int) ≤ (c : Int) := by omega
  have jc61 : (61 : Int) ≤ (c : Int) := by omega
  have jc93 : (93 : Int) ≤ (c : Int) := by omega
  have jz13 : ¬ (c : Int) = 13 := by omega
  have jy13 : ¬ c = 13 := by omega
  have jz45 : ¬ (c : Int) = 45 := by omega
  have jy45 : ¬ c = 45 := by omega
  have jz77 : ¬ (c : Int) = 77 := by omega
  have jy77 : ¬ c = 77 := by omega
  have HS := Lib.hid hs
  have HPL := Lib.hid hpl
  have HF95 := Lib.hid cf95
  have HLN := Lib.hid hl
  clear hs hpl cs95 cf95 hl
  go_enter Tryz.func49, Tryz.ntmps49
  go_upto_region 1 with fail
  obtain ⟨W1, hW1⟩ : ∃ W1, W1 = w.alloc (.cells #[.slice none 0 0, .slice none 0 0, .slice none 0 0, .slice none 0 0] 27) := ⟨_, rfl⟩
  rw [← hW1]
  have hbk : Bk W1 w.heap.size 27 [.slice none 0 0, .slice none 0 0, .slice none 0 0, .slice none 0 0] := by rw [hW1]; exact Bk.new _ _ _
  have hbe1 : Below w.heap.size w W1 := by rw [hW1]; exact (Below.refl _ _).alloc (Nat.le_refl _) _
  have hsz : w.heap.size + 1 ≤ W1.heap.size := by rw [hW1]; simp
  have HBK := Lib.hid hbk
  have HBE := Lib.hid hbe1
  have HS1 := Lib.hid (HS.out.below (hbe1.mono hB0))
  have hgW : g < W1.heap.size := by omega
  have hgb : g ≠ w.heap.size := by omega
  have HXB0 := Lib.hid x0
  have x0 := (low_below (g := g) (i := o) hbe1 hgw).trans x0
  have HM1 := Lib.hid (HM1.out.below (hbe1.mono hB0))
  have HM3 := Lib.hid (HM3.out.below (hbe1.mono hB0))
  have HM5 := Lib.hid (HM5.out.below (hbe1.mono hB0))
  have HM61 := Lib.hid (HM61.out.below (hbe1.mono hB0))
  have HM69 := Lib.hid (HM69.out.below (hbe1.mono hB0))
  have HM93 := Lib.hid (HM93.out.below (hbe1.mono hB0))
  clear hW1 hbk hbe1
  go_cut [5, 6] from 9 to 15 (fun v5 v6 wc => ∃ gf, v5 = .pointer (some ⟨gf, 0, none⟩) ∧ v6 = .int .i64 (N93 : Int) ∧ Bk wc gf 46 [.int .u64 N1] ∧ Below W1.heap.size W1 wc ∧ W1.heap.size ≤ gf)
  case first =>
    go_region_held3 (fun w' => True) (trivial) ((go_at_call 46; (first | ((with_reducible refine (num_still _ 2 _ B0 ((xs.drop 1).take 2) _ (by omega) (HM1.out.below (by first | exact (Below.refl _ _).drew | exact ((Below.refl _ _).alloc (by omega) _).drew))).mono ?_); rintro e w' ⟨rfl, rfl⟩; rw [HNN1.out]) | ((with_reducible refine (num_still _ 2 _ B0 ((xs.drop 93).take 2) _ (by omega) (HM93.out.below (by first | exact (Below.refl _ _).drew | exact ((Below.refl _ _).alloc (by omega) _).drew))).mono ?_); rintro e w' ⟨rfl, rfl⟩; rw [HNN93.out]))))
    all_goals
      go_wp2_with fail
      go_meet
      case rel =>
        refine ⟨W1.heap.size, rfl, rfl, ?_, ?_, Nat.le_refl _⟩
        · first
          | exact (Bk.new W1 46 [.int .u64 N1]).drew
          | exact Bk.new W1 46 [.int .u64 N1]
          | exact (((Bk.new W1 46 [.int .u64 0]).set_ 0 (.int .u64 N1))).drew
          | exact ((Bk.new W1 46 [.int .u64 0]).drew.set_ 0 (.int .u64 N1))
        · first
          | exact ((Below.refl _ W1).alloc (Nat.le_refl _) _).drew
          | exact (Below.refl _ W1).alloc (Nat.le_refl _) _
          | exact (((Below.refl _ W1).alloc (Nat.le_refl _) _).setCell (p := ⟨W1.heap.size, 0, none⟩) (Nat.le_refl _) _).drew
          | exact ((Below.refl _ W1).alloc (Nat.le_refl _) _).drew.setCell (p := ⟨W1.heap.size, 0, none⟩) (Nat.le_refl _) _
  case rest =>
  obtain ⟨W2, eW2⟩ : ∃ W2, W2 = wc := ⟨_, rfl⟩
  subst eW2
  obtain ⟨gf, rfl, rfl, hfk, hb12, hgf⟩ := hcut
  have HBE1 := HBE
  have HBK := Lib.hid (HBK.out.below hb12 HBK.out.lt)
  have HBE := Lib.hid (HBE1.out.trans (hb12.mono HBE1.out.size))
  have x0 := (low_below (g := g) (i := o) hb12 hgW).trans x0
  have HM1 := Lib.hid (HV1.out.below (HBE.out.mono hB0))
  have HM3 := Lib.hid (HV3.out.below (HBE.out.mono hB0))
  have HM5 := Lib.hid (HV5.out.below (HBE.out.mono hB0))
  have HM61 := Lib.hid (HV61.out.below (HBE.out.mono hB0))
  have HM69 := Lib.hid (HV69.out.below (HBE.out.mono hB0))
  have HM93 := Lib.hid (HV93.out.below (HBE.out.mono hB0))
  have xf := hfk.cell 0
  simp only [List.getElem?_cons_zero] at xf
  have hfW := hfk.lt
  have hz2 := hb12.size
  have hgW2 : g < W2.heap.size := by omega
  have hsz2 : w.heap.size + 1 ≤ W2.heap.size := by omega
  clear hgW hsz hfk hb12 HBE1
  have hgW := hgW2
  have hsz := hsz2
  clear hgW2 hsz2
  go_upto_region 3 with fail
  go_cut [8] from 17 to 61 (fun v wc => ∃ l gn, v = .pointer (some ⟨l, 0, none⟩) ∧ wc.cell? ⟨gf, 0, none⟩ = some (.int .u64 N1) ∧ gf < l ∧ Lay w wc w.heap.size l 0 (some ⟨gn, 0, none⟩) 17 [a0, m1, r3, m3, r6, r7, r8, r9, r10, r11, r12, r13, N3, N5, N61, N69, N93] (.slice A95 (n - 95) (c - 95)))
  case first =>
    go_region_held3 (fun w' => w'.cell? ⟨g, o, none⟩ = some (.int .u8 a0) ∧ w'.cell? ⟨gf, 0, none⟩ = some (.int .u64 N1))
      (first | with_reducible exact ⟨y0, yf⟩ | with_reducible exact ⟨low_drew.trans x0, low_drew.trans xf⟩ | with_reducible exact ⟨(low_alloc hgW).trans x0, (low_alloc hfW).trans xf⟩ | with_reducible exact ⟨(low_alloc2 hgW).trans x0, (low_alloc2 hfW).trans xf⟩ | with_reducible exact ⟨(low_alloc0 hg23).trans y0, (low_alloc0 hf23).trans yf⟩ | exact ⟨(set4_low hgl).trans y0, (set4_low hfl).trans yf⟩)
      ((first | (go_at_call 46; (first | ((with_reducible refine (num_still _ 2 _ B0 ((xs.drop 3).take 2) _ (by omega) (HM3.out.below (by first | exact (Below.refl _ _).drew | exact ((Below.refl _ _).alloc (by omega) _).drew))).mono ?_); rintro e w' ⟨rfl, rfl⟩; rw [HNN3.out]) | ((with_reducible refine (num_still _ 8 _ B0 ((xs.drop 5).take 8) _ (by omega) (HM5.out.below (by first | exact (Below.refl _ _).drew | exact ((Below.refl _ _).alloc (by omega) _).drew))).mono ?_); rintro e w' ⟨rfl, rfl⟩; rw [HNN5.out]) | ((with_reducible refine (num_still _ 8 _ B0 ((xs.drop 61).take 8) _ (by omega) (HM61.out.below (by first | exact (Below.refl _ _).drew | exact ((Below.refl _ _).alloc (by omega) _).drew))).mono ?_); rintro e w' ⟨rfl, rfl⟩; rw [HNN61.out]) | ((with_reducible refine (num_still _ 8 _ B0 ((xs.drop 69).take 8) _ (by omega) (HM69.out.below (by first | exact (Below.refl _ _).drew | exact ((Below.refl _ _).alloc (by omega) _).drew))).mono ?_); rintro e w' ⟨rfl, rfl⟩; rw [HNN69.out]))) | (go_at_call 64; (first | ((with_reducible refine (bitq3 N1 r3 gf _ (by omega) R3.out (by first | exact low_drew.trans xf | exact (low_alloc hfW).trans xf)).mono ?_); rintro e w' ⟨rfl, rfl⟩) | ((with_reducible refine (bitq6 N1 r6 gf _ (by omega) R6.out (by first | exact low_drew.trans xf | exact (low_alloc hfW).trans xf)).mono ?_); rintro e w' ⟨rfl, rfl⟩) | ((with_reducible refine (bitq7 N1 r7 gf _ (by omega) R7.out (by first | exact low_drew.trans xf | exact (low_alloc hfW).trans xf)).mono ?_); rintro e w' ⟨rfl, rfl⟩) | ((with_reducible refine (bitq8 N1 r8 gf _ (by omega) R8.out (by first | exact low_drew.trans xf | exact (low_alloc hfW).trans xf)).mono ?_); rintro e w' ⟨rfl, rfl⟩) | ((with_reducible refine (bitq9 N1 r9 gf _ (by omega) R9.out (by first | exact low_drew.trans xf | exact (low_alloc hfW).trans xf)).mono ?_); rintro e w' ⟨rfl, rfl⟩) | ((with_reducible refine (bitq10 N1 r10 gf _ (by omega) R10.out (by first | exact low_drew.trans xf | exact (low_alloc hfW).trans xf)).mono ?_); rintro e w' ⟨rfl, rfl⟩) | ((with_reducible refine (bitq11 N1 r11 gf _ (by omega) R11.out (by first | exact low_drew.trans xf | exact (low_alloc hfW).trans xf)).mono ?_); rintro e w' ⟨rfl, rfl⟩) | ((with_reducible refine (bitq12 N1 r12 gf _ (by omega) R12.out (by first | exact low_drew.trans xf | exact (low_alloc hfW).trans xf)).mono ?_); rintro e w' ⟨rfl, rfl⟩) | ((with_reducible refine (bitq13 N1 r13 gf _ (by omega) R13.out (by first | exact low_drew.trans xf | exact (low_alloc hfW).trans xf)).mono ?_); rintro e w' ⟨rfl, rfl⟩))) | (go_at_call 45; obtain ⟨cs, hcs⟩ : ∃ cs : List Value, cs = [.int .u64 a0, .int .u64 m1, .int .u64 r3, .int .u64 m3, .int .u64 r6, .int .u64 r7, .int .u64 r8, .int .u64 r9, .int .u64 r10, .int .u64 r11, .int .u64 r12, .int .u64 r13, .int .u64 N3, .int .u64 N5, .int .u64 N61, .int .u64 N69, .int .u64 N93] := ⟨_, rfl⟩; rw [← hcs]; (with_reducible refine (layer_any _ _ _ _ _ _ _ _ rfl rfl ((W2.alloc (.cells cs.toArray 46)).drew)).mono ?_); rintro e w23 ⟨rfl, hb23⟩; have mk1 : True := trivial; have hg23 : g < w23.heap.size := (by have hq := hb23.size; have hq2 : W2.heap.size + 1 ≤ w23.heap.size := (by simpa using hq); omega); have hf23 : gf < w23.heap.size := (by have hq := hb23.size; have hq2 : W2.heap.size + 1 ≤ w23.heap.size := (by simpa using hq); omega); have y0 := (low_below (g := g) (i := o) hb23 (by simp <;> omega)).trans ((low_alloc hgW).trans x0); have yf := (low_below (g := gf) (i := 0) hb23 (by simp <;> omega)).trans ((low_alloc hfW).trans xf)) | (go_at_call 45; obtain ⟨cs, hcs⟩ : ∃ cs : List Value, cs = [.int .u64 a0, .int .u64 m1, .int .u64 r3, .int .u64 m3, .int .u64 r6, .int .u64 r7, .int .u64 r8, .int .u64 r9, .int .u64 r10, .int .u64 r11, .int .u64 r12, .int .u64 r13, .int .u64 N3, .int .u64 N5, .int .u64 N61, .int .u64 N69, .int .u64 N93] := ⟨_, rfl⟩; rw [← hcs]; (with_reducible refine (layer_any _ _ _ _ _ _ _ _ rfl rfl (((W2.alloc (.cells cs.toArray 46)).alloc (.cells #[.slice none 0 0, .slice none 0 0, .slice none 0 0, .slice none 0 0] 27)).drew)).mono ?_); rintro e w23 ⟨rfl, hb23⟩; have hlb := lay_before (m := 17) (nums := [a0, m1, r3, m3, r6, r7, r8, r9, r10, r11, r12, r13, N3, N5, N61, N69, N93]) (P := .slice A95 (n - 95) (c - 95)) (by rw [hcs]; rfl) rfl HBE.out (Nat.le_refl _) (by omega) rfl HBK.out hb23; have p0 := hlb.1.cell 0; have p1 := hlb.1.cell 1; have p2 := hlb.1.cell 2; have p3 := hlb.1.cell 3; have pf0 := hlb.1.frozen 0; have pf1 := hlb.1.frozen 1; have pf2 := hlb.1.frozen 2; have pf3 := hlb.1.frozen 3; simp only [List.getElem?_cons_zero, List.getElem?_cons_succ] at p0 p1 p2 p3; have mk2 : True := trivial; have hgl : g ≠ W2.heap.size + 1 := (by omega); have hfl : gf ≠ W2.heap.size + 1 := (by omega); have y0 := (low_below (g := g) (i := o) hb23 (by simp <;> omega)).trans ((low_alloc2 hgW).trans x0); have yf := (low_below (g := gf) (i := 0) hb23 (by simp <;> omega)).trans ((low_alloc2 hfW).trans xf)) | (go_at_call 45; obtain ⟨cs, hcs⟩ : ∃ cs : List Value, cs = [.int .u64 a0, .int .u64 m1, .int .u64 r3, .int .u64 m3, .int .u64 r6, .int .u64 r7, .int .u64 r8, .int .u64 r9, .int .u64 r10, .int .u64 r11, .int .u64 r12, .int .u64 r13, .int .u64 N3, .int .u64 N5, .int .u64 N61, .int .u64 N69, .int .u64 N93] := ⟨_, rfl⟩; rw [← hcs]; (with_reducible refine (layer_any _ _ _ _ _ _ _ _ rfl rfl (((W2.alloc (.cells #[.slice none 0 0, .slice none 0 0, .slice none 0 0, .slice none 0 0] 27)).alloc (.cells cs.toArray 46)).drew)).mono ?_); rintro e w23 ⟨rfl, hb23⟩; have hlb := lay_first (m := 17) (nums := [a0, m1, r3, m3, r6, r7, r8, r9, r10, r11, r12, r13, N3, N5, N61, N69, N93]) (P := .slice A95 (n - 95) (c - 95)) (by rw [hcs]; rfl) rfl HBE.out (Nat.le_refl _) (by omega) rfl HBK.out hb23; have p0 := hlb.1.cell 0; have p1 := hlb.1.cell 1; have p2 := hlb.1.cell 2; have p3 := hlb.1.cell 3; have pf0 := hlb.1.frozen 0; have pf1 := hlb.1.frozen 1; have pf2 := hlb.1.frozen 2; have pf3 := hlb.1.frozen 3; simp only [List.getElem?_cons_zero, List.getElem?_cons_succ] at p0 p1 p2 p3; have mk3 : True := trivial; have hgl : g ≠ W2.heap.size := (by omega); have hfl : gf ≠ W2.heap.size := (by omega); have y0 := (low_below (g := g) (i := o) hb23 (by simp <;> omega)).trans ((low_alloc2 hgW).trans x0); have yf := (low_below (g := gf) (i := 0) hb23 (by simp <;> omega)).trans ((low_alloc2 hfW).trans xf))))
    all_goals
      first
      | (clear mk1
         obtain ⟨l, hl⟩ : ∃ l, l = w23.heap.size := ⟨_, rfl⟩
         have hlay := lay_after (m := 17) (nums := [a0, m1, r3, m3, r6, r7, r8, r9, r10, r11, r12, r13, N3, N5, N61, N69, N93]) (P := .slice A95 (n - 95) (c - 95)) (by rw [hcs]; rfl) rfl HBE.out (Nat.le_refl _) (by omega) HBK.out hb23
         obtain ⟨W3, hW3⟩ : ∃ W3, W3 = w23.alloc (.cells #[.slice (some ⟨W2.heap.size, 0, none⟩) 17 17, .slice none 0 0, .slice none 0 0, .slice A95 (n - 95) (c - 95)] 27) := ⟨_, rfl⟩
         have hgl : gf < l := by omega
         have yz : W3.cell? ⟨gf, 0, none⟩ = some (.int .u64 N1) := by rw [hW3]; exact (low_alloc0 hf23).trans yf
         obtain ⟨gn, hgn⟩ : ∃ gn, gn = W2.heap.size := ⟨_, rfl⟩
         rw [← hW3, ← hl, ← hgn] at hlay
         rw [← hW3, ← hl]
         try rw [← hgn]
         clear hW3 hl hgn hcs hb23)
      | (clear mk2
         obtain ⟨l, hl⟩ : ∃ l, l = W2.heap.size + 1 := ⟨_, rfl⟩
         obtain ⟨gn, hgn⟩ : ∃ gn, gn = W2.heap.size := ⟨_, rfl⟩
         have hlay := hlb.2
         obtain ⟨W3, hW3⟩ : ∃ W3, W3 = set4 w23 (W2.heap.size + 1) (.slice (some ⟨W2.heap.size, 0, none⟩) 17 17) (.slice none 0 0) (.slice none 0 0) (.slice A95 (n - 95) (c - 95)) := ⟨_, rfl⟩
         have hgl : gf < l := by omega
         have yz : W3.cell? ⟨gf, 0, none⟩ = some (.int .u64 N1) := by rw [hW3]; exact (set4_low hfl).trans yf
         rw [← hW3, ← hl, ← hgn] at hlay
         rw [show ((((w23.setCell ⟨W2.heap.size + 1, 0, none⟩ (.slice (some ⟨W2.heap.size, 0, none⟩) 17 17)).setCell ⟨W2.heap.size + 1, 1, none⟩ (.slice none 0 0)).setCell ⟨W2.heap.size + 1, 2, none⟩ (.slice none 0 0)).setCell ⟨W2.heap.size + 1, 3, none⟩ (.slice A95 (n - 95) (c - 95))) = W3 from hW3.symm, ← hl]
         try rw [← hgn]
         clear hW3 hl hgn hlb hcs hb23 p0 p1 p2 p3 pf0 pf1 pf2 pf3)
      | (clear mk3
         obtain ⟨l, hl⟩ : ∃ l, l = W2.heap.size := ⟨_, rfl⟩
         obtain ⟨gn, hgn⟩ : ∃ gn, gn = W2.heap.size + 1 := ⟨_, rfl⟩
         have hlay := hlb.2
         obtain ⟨W3, hW3⟩ : ∃ W3, W3 = set4 w23 (W2.heap.size) (.slice (some ⟨W2.heap.size + 1, 0, none⟩) 17 17) (.slice none 0 0) (.slice none 0 0) (.slice A95 (n - 95) (c - 95)) := ⟨_, rfl⟩
         have hgl : gf < l := by omega
         have yz : W3.cell? ⟨gf, 0, none⟩ = some (.int .u64 N1) := by rw [hW3]; exact (set4_low hfl).trans yf
         rw [← hW3, ← hgn, ← hl] at hlay
         rw [show ((((w23.setCell ⟨W2.heap.size, 0, none⟩ (.slice (some ⟨W2.heap.size + 1, 0, none⟩) 17 17)).setCell ⟨W2.heap.size, 1, none⟩ (.slice none 0 0)).setCell ⟨W2.heap.size, 2, none⟩ (.slice none 0 0)).setCell ⟨W2.heap.size, 3, none⟩ (.slice A95 (n - 95) (c - 95))) = W3 from hW3.symm, ← hl]
         try rw [← hgn]
         clear hW3 hl hgn hlb hcs hb23 p0 p1 p2 p3 pf0 pf1 pf2 pf3)
      go_wp2_with fail
      go_meet
      case rel => exact ⟨l, gn, rfl, yz, hgl, hlay⟩
  case rest =>
  obtain ⟨W3, eW3⟩ : ∃ W3, W3 = wc := ⟨_, rfl⟩
  subst eW3
  obtain ⟨l, gn, rfl, yz, hgl, hlay⟩ := hcut
  have HLAY := Lib.hid hlay
  have l0 := hlay.hl.cell 0
  have l1 := hlay.hl.cell 1
  have l2 := hlay.hl.cell 2
  have l3 := hlay.hl.cell 3
  have lf0 := hlay.hl.frozen 0
  have lf1 := hlay.hl.frozen 1
  have lf2 := hlay.hl.frozen 2
  have lf3 := hlay.hl.frozen 3
  simp only [List.getElem?_cons_zero, List.getElem?_cons_succ] at l0 l1 l2 l3
  have hll := hlay.hl.lt
  have hbl := hlay.bl
  have hwl := hlay.wl
  have hrl := hlay.hr.lt
  have hz3 := hlay.be.size
  clear hlay
  go_wp2_with fail
  go_region_held3 (fun w' => True) (trivial) (fail)
  obtain ⟨dv, hdv⟩ : ∃ dv : List Value, dv = [.slice (some ⟨g, o + 13, none⟩) 32 (c - 13), .slice (some ⟨g, o + 45, none⟩) 16 (c - 45), .slice (some ⟨g, o + 77, none⟩) 16 (c - 77), .slice none 0 0] := ⟨_, rfl⟩
  obtain ⟨gd, hgd⟩ : ∃ gd, gd = W3.heap.size := ⟨_, rfl⟩
  obtain ⟨W4, hW4⟩ : ∃ W4, W4 = ((W3.setCell ⟨l, 1, none⟩ (.slice (some ⟨W3.heap.size, 0, none⟩) 4 4)).alloc (.cells dv.toArray 25)).drew := ⟨_, rfl⟩
  have hW4' := hW4
  rw [hdv] at hW4'
  first | rw [show _ = W4 from hW4'.symm] | rw [← hW4']
  clear hW4'
  obtain ⟨gn', hgn', hNb, hwn, hnl, hbn⟩ := HLAY.out.hN
  cases hgn'
  have hgr : W3.grownBy W4 (some l) := by rw [hW4]; exact only_drewN (only_alloc (only_set (p := ⟨l, 1, none⟩) (grownBy_refl' W3 (some l)) (.inl rfl) _) (.cells dv.toArray 25)) 1
  have hl4 : Bk W4 l 27 [.slice (some ⟨gn, 0, none⟩) 17 17, .slice (some ⟨gd, 0, none⟩) 4 4, .slice none 0 0, .slice A95 (n - 95) (c - 95)] := by rw [hW4, hgd]; exact ((HLAY.out.hl.set_ 1 _).alloc _).drew
  have hr4 : Bk W4 w.heap.size 27 [.slice none 0 0, .slice none 0 0, .slice none 0 0, .slice none 0 0] := HLAY.out.hr.grown hgr (by simp; omega)
  have hb4 : Below w.heap.size w W4 := HLAY.out.be.trans (grown_below' hgr hz3 (by omega))
  have hN4 : Bk W4 gn 46 (ncs [a0, m1, r3, m3, r6, r7, r8, r9, r10, r11, r12, r13, N3, N5, N61, N69, N93]) := hNb.grown hgr (by simp; omega)
  have hD4 : Bk W4 gd 25 [.slice (some ⟨g, o + 13, none⟩) 32 (c - 13), .slice (some ⟨g, o + 45, none⟩) 16 (c - 45), .slice (some ⟨g, o + 77, none⟩) 16 (c - 77), .slice none 0 0] := by rw [hW4, hgd, ← hdv]; have := (Bk.new (W3.setCell ⟨l, 1, none⟩ (.slice (some ⟨W3.heap.size, 0, none⟩) 4 4)) 25 dv).drew; simpa using this
  have hgd2 : w.heap.size < gd := by omega
  have hgdl : gd ≠ l := by omega
  have hgdn : gd ≠ gn := by have := hNb.lt; omega
  have yz4 : W4.cell? ⟨gf, 0, none⟩ = some (.int .u64 N1) := (World.cell?_of_block (hgr.block gf (by omega) (by simp; omega))).trans yz
  clear hdv hgd hW4 hgr hNb lf0 lf1 lf2 lf3 l0 l1 l2 l3
  have HL4 := Lib.hid hl4
  have HR4 := Lib.hid hr4
  have HB4 := Lib.hid hb4
  have HN4 := Lib.hid hN4
  have HD4 := Lib.hid hD4
  clear hl4 hr4 hb4 hN4 hD4
  have k0 := HR4.out.cell 0
  have f0 := HR4.out.frozen 0
  have k1 := HR4.out.cell 1
  have f1 := HR4.out.frozen 1
  have k2 := HR4.out.cell 2
  have f2 := HR4.out.frozen 2
  have k3 := HR4.out.cell 3
  have f3 := HR4.out.frozen 3
  have l0 := HL4.out.cell 0
  have l1 := HL4.out.cell 1
  have l2 := HL4.out.cell 2
  have l3 := HL4.out.cell 3
  simp only [List.getElem?_cons_zero, List.getElem?_cons_succ] at l0 l1 l2 l3 k0 k1 k2 k3
  rcases Nat.lt_or_ge (n - 95) N93 with hd | hd
  · have t8 : decide ((n : Int) - 95 < (N93 : Int)) = true := by rw [decide_eq_true_eq]; omega
    go_wp2_with fail
    obtain ⟨z0, z1, z2, z3⟩ := set4_cells HR4.out (.slice none 0 0) (.slice none 0 0) (.slice none 0 0) (.slice none 0 0)
    have hfb := set4_below HB4.out w.heap.size (Nat.le_refl _) (.slice none 0 0) (.slice none 0 0) (.slice none 0 0) (.slice none 0 0)
    exact bodyPost_ret (v := .tuple #[.agg #[.slice none 0 0, .slice none 0 0, .slice none 0 0, .slice none 0 0], .bool false, .bool true]) (by simp [results, Tryz.results49, go_sem, z0, z1, z2, z3]) rfl (hR.out _ _ ⟨fun _ => ⟨rfl, hfb⟩, fun h => absurd h (by omega), fun h => absurd h (by omega)⟩)
  · rcases (by omega : r12 = 0 ∨ r12 = 1) with h12 | h12
    · have t8 : decide ((n : Int) - 95 < (N93 : Int)) = false := by rw [decide_eq_false_iff_not]; omega
      have H12 := Lib.hid h12
      clear h12
      go_wp2_with fail
      refine (bitq12 N1 r12 gf _ (by omega) R12.out yz4).mono ?_
      rintro e w9 ⟨rfl, hw9⟩
      rw [hw9, H12.out, show ((0 : Nat) : Int) = 0 from rfl]
      clear hw9
      go_wp2_with fail
      have hzW := HB4.out.size
      have hBz : B0 ≤ W4.heap.size := by omega
      have e13 : ((xs.drop 13).take 32).length = 32 := by rw [List.length_take, List.length_drop, HLN.out]; omega
      have s13 : Sl W4 W4.heap.size (some ⟨g, o + 13, none⟩) 32 (bcs ((xs.drop 13).take 32)) := (((HS.out.drop_ (k := 13) (by omega)).take_ (k := 32) (by omega)).below (HB4.out.mono hB0)).more hBz
      have e45 : ((xs.drop 45).take 16).length = 16 := by rw [List.length_take, List.length_drop, HLN.out]; omega
      have s45 : Sl W4 W4.heap.size (some ⟨g, o + 45, none⟩) 16 (bcs ((xs.drop 45).take 16)) := (((HS.out.drop_ (k := 45) (by omega)).take_ (k := 16) (by omega)).below (HB4.out.mono hB0)).more hBz
      have e77 : ((xs.drop 77).take 16).length = 16 := by rw [List.length_take, List.length_drop, HLN.out]; omega
      have s77 : Sl W4 W4.heap.size (some ⟨g, o + 77, none⟩) 16 (bcs ((xs.drop 77).take 16)) := (((HS.out.drop_ (k := 77) (by omega)).take_ (k := 16) (by omega)).below (HB4.out.mono hB0)).more hBz
      have hE0 := EachF.nil W4 W4.heap.size B0 (w.heap.size + 1)
      have hE1 := EachF.cons (c := 0) (d := []) hE0 (Sl.none_ _ _ none) (Fr2.nil _ _)
      have hE2 := EachF.cons (c := c - 77) (d := (xs.drop 77).take 16) hE1 (show Sl W4 W4.heap.size (some ⟨g, o + 77, none⟩) ((xs.drop 77).take 16).length _ by rw [e77]; exact s77) (Fr2.old hg)
      have hE3 := EachF.cons (c := c - 45) (d := (xs.drop 45).take 16) hE2 (show Sl W4 W4.heap.size (some ⟨g, o + 45, none⟩) ((xs.drop 45).take 16).length _ by rw [e45]; exact s45) (Fr2.old hg)
      have hE4 := EachF.cons (c := c - 13) (d := (xs.drop 13).take 32) hE3 (show Sl W4 W4.heap.size (some ⟨g, o + 13, none⟩) ((xs.drop 13).take 32).length _ by rw [e13]; exact s13) (Fr2.old hg)
      rw [e13, e45, e77] at hE4
      have hPP := ((HPL.out).below (HB4.out.mono hB0)).more hBz
      have hLL := LyrF.mk (w := W4) (B := W4.heap.size) (B0 := B0) (B1 := w.heap.size + 1) (nums := [a0, m1, r3, m3, r6, r7, r8, r9, r10, r11, r12, r13, N3, N5, N61, N69, N93]) (data := [(xs.drop 13).take 32, (xs.drop 45).take 16, (xs.drop 77).take 16, []]) (pay := (xs.drop 95)) (cN := 17) (cD := 4) (AP := none) (cP := 0) (cB := c - 95)
        (HN4.out.sl HN4.out.lt rfl (fun j u hu => by rw [Nat.zero_add]; exact hu))
        (HD4.out.sl HD4.out.lt rfl (fun j u hu => by rw [Nat.zero_add]; exact hu))
        hE4 hPP (Fr2.new (by omega)) (Fr2.new (by omega)) (cut_fr hg HF95.out)
      have hfin := read_end (w := w) hLL HB4.out hB0 (Nat.lt_succ_self _) (Nat.le_refl _)
      obtain ⟨z0, z1, z2, z3⟩ := set4_cells HR4.out (.slice (some ⟨gn, 0, none⟩) 17 17) (.slice (some ⟨gd, 0, none⟩) 4 4) (.slice none 0 0) (.slice A95 (n - 95) (c - 95))
      exact bodyPost_ret (v := .tuple #[.agg #[.slice (some ⟨gn, 0, none⟩) 17 17, .slice (some ⟨gd, 0, none⟩) 4 4, .slice none 0 0, .slice A95 (n - 95) (c - 95)], .bool true, .bool true]) (by simp [results, Tryz.results49, go_sem, z0, z1, z2, z3]) rfl (hR.out _ _ ⟨fun h => absurd h (by omega), fun _ _ => ⟨_, rfl, hfin.1, hfin.2.more (Nat.le_refl _) (Nat.le_refl _) (by omega)⟩, fun _ h2 => absurd h2 (by rw [H12.out]; decide)⟩)
    · obtain ⟨AE, cutE, csE, cfE⟩ := cut_mid g o n c 95 (95 + N93) .i64 .i64 95 (95 + (N93 : Int)) rfl (by omega) (by omega) (by omega)
      rw [Nat.add_sub_cancel_left] at cutE
      have HCE := Lib.hid csE
      have HFE := Lib.hid cfE
      obtain ⟨AT, cutT, csT, cfT⟩ := cut_from g o n c (95 + N93) (95 + (N93 : Int)) (by omega) (by omega) hnc
      have HCT := Lib.hid csT
      have HFT := Lib.hid cfT
      clear csE cfE csT cfT
      have kcN : (95 : Int) + (N93 : Int) ≤ (c : Int) := by omega
      have knN : (95 : Int) + (N93 : Int) ≤ (n : Int) := by omega
      have kn9 : (95 : Int) ≤ 95 + (N93 : Int) := by omega
      have t8 : decide ((n : Int) - 95 < (N93 : Int)) = false := by rw [decide_eq_false_iff_not]; omega
      have H12 := Lib.hid h12
      clear h12
      go_wp2_with fail
      refine (bitq12 N1 r12 gf _ (by omega) R12.out yz4).mono ?_
      rintro e w9 ⟨rfl, hw9⟩
      rw [hw9, H12.out, show ((1 : Nat) : Int) = 1 from rfl]
      clear hw9
      have nd3 := HD4.out.cell 3
      have nf3 := HD4.out.frozen 3
      have lf3 := HL4.out.frozen 3
      simp only [List.getElem?_cons_zero, List.getElem?_cons_succ] at nd3
      have hgl2 : l ≠ gd := by omega
      go_wp2_with fail
      go_region_held3 (fun w' => w'.cell? ⟨l, 1, none⟩ = some (.slice (some ⟨gd, 0, none⟩) 4 4)) (first | exact low_drew.trans l1 | exact ((HL4.out.far (p := ⟨gd, 3, none⟩) hgl2 _).set_ 3 _).drew.cell 1 | go_keep) (fail)
      obtain ⟨W5, hW5⟩ : ∃ W5, W5 = ((W4.setCell ⟨gd, 3, none⟩ (.slice AE N93 (c - 95))).setCell ⟨l, 3, none⟩ (.slice AT (n - (95 + N93)) (c - (95 + N93)))).drew := ⟨_, rfl⟩
      rw [← hW5]
      have hgn2 : gn ≠ gd := by omega
      have hgr2 : w.heap.size ≠ gd := by omega
      have hlr2 : w.heap.size ≠ l := by omega
      have hl5 : Bk W5 l 27 [.slice (some ⟨gn, 0, none⟩) 17 17, .slice (some ⟨gd, 0, none⟩) 4 4, .slice none 0 0, .slice AT (n - (95 + N93)) (c - (95 + N93))] := by rw [hW5]; exact ((HL4.out.far (p := ⟨gd, 3, none⟩) hgl2 _).set_ 3 _).drew
      have hr5 : Bk W5 w.heap.size 27 [.slice none 0 0, .slice none 0 0, .slice none 0 0, .slice none 0 0] := by rw [hW5]; exact ((HR4.out.far (p := ⟨gd, 3, none⟩) hgr2 _).far (p := ⟨l, 3, none⟩) hlr2 _).drew
      have hN5 : Bk W5 gn 46 (ncs [a0, m1, r3, m3, r6, r7, r8, r9, r10, r11, r12, r13, N3, N5, N61, N69, N93]) := by rw [hW5]; exact ((HN4.out.far (p := ⟨gd, 3, none⟩) hgn2 _).far (p := ⟨l, 3, none⟩) hnl _).drew
      have hD5 : Bk W5 gd 25 [.slice (some ⟨g, o + 13, none⟩) 32 (c - 13), .slice (some ⟨g, o + 45, none⟩) 16 (c - 45), .slice (some ⟨g, o + 77, none⟩) 16 (c - 77), .slice AE N93 (c - 95)] := by rw [hW5]; exact ((HD4.out.set_ 3 _).far (p := ⟨l, 3, none⟩) hgdl _).drew
      have hb5 : Below w.heap.size w W5 := by rw [hW5]; exact ((HB4.out.setCell (p := ⟨gd, 3, none⟩) (by simp; omega) _).setCell (p := ⟨l, 3, none⟩) (by simp; omega) _).drew
      have HL5 := Lib.hid hl5
      have HR5 := Lib.hid hr5
      have HB5 := Lib.hid hb5
      have HN5 := Lib.hid hN5
      have HD5 := Lib.hid hD5
      clear hW5 hl5 hr5 hb5 hN5 hD5 k0 k1 k2 k3 f0 f1 f2 f3 l0 l1 l2 l3 nd3 nf3 lf3
      have k0 := HR5.out.cell 0
      have f0 := HR5.out.frozen 0
      have k1 := HR5.out.cell 1
      have f1 := HR5.out.frozen 1
      have k2 := HR5.out.cell 2
      have f2 := HR5.out.frozen 2
      have k3 := HR5.out.cell 3
      have f3 := HR5.out.frozen 3
      have l0 := HL5.out.cell 0
      have l1 := HL5.out.cell 1
      have l2 := HL5.out.cell 2
      have l3 := HL5.out.cell 3
      simp only [List.getElem?_cons_zero, List.getElem?_cons_succ] at l0 l1 l2 l3 k0 k1 k2 k3
      go_wp2_with fail
      have hzW := HB5.out.size
      have hBz : B0 ≤ W5.heap.size := by omega
      have e13 : ((xs.drop 13).take 32).length = 32 := by rw [List.length_take, List.length_drop, HLN.out]; omega
      have s13 : Sl W5 W5.heap.size (some ⟨g, o + 13, none⟩) 32 (bcs ((xs.drop 13).take 32)) := (((HS.out.drop_ (k := 13) (by omega)).take_ (k := 32) (by omega)).below (HB5.out.mono hB0)).more hBz
      have e45 : ((xs.drop 45).take 16).length = 16 := by rw [List.length_take, List.length_drop, HLN.out]; omega
      have s45 : Sl W5 W5.heap.size (some ⟨g, o + 45, none⟩) 16 (bcs ((xs.drop 45).take 16)) := (((HS.out.drop_ (k := 45) (by omega)).take_ (k := 16) (by omega)).below (HB5.out.mono hB0)).more hBz
      have e77 : ((xs.drop 77).take 16).length = 16 := by rw [List.length_take, List.length_drop, HLN.out]; omega
      have s77 : Sl W5 W5.heap.size (some ⟨g, o + 77, none⟩) 16 (bcs ((xs.drop 77).take 16)) := (((HS.out.drop_ (k := 77) (by omega)).take_ (k := 16) (by omega)).below (HB5.out.mono hB0)).more hBz
      have hE0 := EachF.nil W5 W5.heap.size B0 (w.heap.size + 1)
      have e95 : ((xs.drop 95).take N93).length = N93 := by rw [List.length_take, List.length_drop, HLN.out]; omega
      have s95 : Sl W5 W5.heap.size AE N93 (bcs ((xs.drop 95).take N93)) := by
        have hq := HCE.out w B0 xs (by omega) HS.out
        rw [Nat.add_sub_cancel_left] at hq
        exact (hq.below (HB5.out.mono hB0)).more hBz
      have hE1 := EachF.cons (c := c - 95) (d := (xs.drop 95).take N93) hE0 (show Sl W5 W5.heap.size AE ((xs.drop 95).take N93).length _ by rw [e95]; exact s95) (cut_fr hg HFE.out)
      have hE2 := EachF.cons (c := c - 77) (d := (xs.drop 77).take 16) hE1 (show Sl W5 W5.heap.size (some ⟨g, o + 77, none⟩) ((xs.drop 77).take 16).length _ by rw [e77]; exact s77) (Fr2.old hg)
      have hE3 := EachF.cons (c := c - 45) (d := (xs.drop 45).take 16) hE2 (show Sl W5 W5.heap.size (some ⟨g, o + 45, none⟩) ((xs.drop 45).take 16).length _ by rw [e45]; exact s45) (Fr2.old hg)
      have hE4 := EachF.cons (c := c - 13) (d := (xs.drop 13).take 32) hE3 (show Sl W5 W5.heap.size (some ⟨g, o + 13, none⟩) ((xs.drop 13).take 32).length _ by rw [e13]; exact s13) (Fr2.old hg)
      rw [e13, e45, e77, e95] at hE4
      have hPP := ((HCT.out w B0 xs HS.out).below (HB5.out.mono hB0)).more hBz
      have hLL := LyrF.mk (w := W5) (B := W5.heap.size) (B0 := B0) (B1 := w.heap.size + 1) (nums := [a0, m1, r3, m3, r6, r7, r8, r9, r10, r11, r12, r13, N3, N5, N61, N69, N93]) (data := [(xs.drop 13).take 32, (xs.drop 45).take 16, (xs.drop 77).take 16, (xs.drop 95).take N93]) (pay := (xs.drop (95 + N93))) (cN := 17) (cD := 4) (AP := none) (cP := 0) (cB := c - (95 + N93))
        (HN5.out.sl HN5.out.lt rfl (fun j u hu => by rw [Nat.zero_add]; exact hu))
        (HD5.out.sl HD5.out.lt rfl (fun j u hu => by rw [Nat.zero_add]; exact hu))
        hE4 hPP (Fr2.new (by omega)) (Fr2.new (by omega)) (cut_fr hg HFT.out)
      have hfin := read_end (w := w) hLL HB5.out hB0 (Nat.lt_succ_self _) (Nat.le_refl _)
      obtain ⟨z0, z1, z2, z3⟩ := set4_cells HR5.out (.slice (some ⟨gn, 0, none⟩) 17 17) (.slice (some ⟨gd, 0, none⟩) 4 4) (.slice none 0 0) (.slice AT (n - (95 + N93)) (c - (95 + N93)))
      exact bodyPost_ret (v := .tuple #[.agg #[.slice (some ⟨gn, 0, none⟩) 17 17, .slice (some ⟨gd, 0, none⟩) 4 4, .slice none 0 0, .slice AT (n - (95 + N93)) (c - (95 + N93))], .bool true, .bool true]) (by simp [results, Tryz.results49, go_sem, z0, z1, z2, z3]) rfl (hR.out _ _ ⟨fun h => absurd h (by omega), fun _ h2 => absurd h2 (by rw [H12.out]; decide), fun _ _ => ⟨_, rfl, hfin.1, hfin.2.more (Nat.le_refl _) (Nat.le_refl _) (by omega)⟩⟩)
theorem srd_key_pln (xs : List UInt8) (h12 : Lib.beNat ((xs.drop 1).take 2) / 4096 % 2 = 0) (hd : Lib.beNat ((xs.drop 93).take 2) ≤ xs.length - 95) (h4 : 95 ≤ xs.length) (hn : xs.length ≤ 1000) : Srd 49 xs [(xs.getD 0 0).toNat, Lib.beNat ((xs.drop 1).take 2) % 8, Lib.beNat ((xs.drop 1).take 2) / 8 % 2, Lib.beNat ((xs.drop 1).take 2) / 16 % 4, Lib.beNat ((xs.drop 1).take 2) / 64 % 2, Lib.beNat ((xs.drop 1).take 2) / 128 % 2, Lib.beNat ((xs.drop 1).take 2) / 256 % 2, Lib.beNat ((xs.drop 1).take 2) / 512 % 2, Lib.beNat ((xs.drop 1).take 2) / 1024 % 2, Lib.beNat ((xs.drop 1).take 2) / 2048 % 2, Lib.beNat ((xs.drop 1).take 2) / 4096 % 2, Lib.beNat ((xs.drop 1).take 2) / 8192 % 2, Lib.beNat ((xs.drop 3).take 2), Lib.beNat ((xs.drop 5).take 8), Lib.beNat ((xs.drop 61).take 8), Lib.beNat ((xs.drop 69).take 8), Lib.beNat ((xs.drop 93).take 2)] [(xs.drop 13).take 32, (xs.drop 45).take 16, (xs.drop 77).take 16, []] (xs.drop 95) :=
  fun A n c B0 B1 w hs hB0 hB1 hnc => (srd_key_all xs h4 hn A n c B0 B1 w hs hB0 hB1 hnc).mono fun e w' h => h.2.1 hd h12
theorem srd_key_enc (xs : List UInt8) (h12 : Lib.beNat ((xs.drop 1).take 2) / 4096 % 2 = 1) (hd : Lib.beNat ((xs.drop 93).take 2) ≤ xs.length - 95) (h4 : 95 ≤ xs.length) (hn : xs.length ≤ 1000) : Srd 49 xs [(xs.getD 0 0).toNat, Lib.beNat ((xs.drop 1).take 2) % 8, Lib.beNat ((xs.drop 1).take 2) / 8 % 2, Lib.beNat ((xs.drop 1).take 2) / 16 % 4, Lib.beNat ((xs.drop 1).take 2) / 64 % 2, Lib.beNat ((xs.drop 1).take 2) / 128 % 2, Lib.beNat ((xs.drop 1).take 2) / 256 % 2, Lib.beNat ((xs.drop 1).take 2) / 512 % 2, Lib.beNat ((xs.drop 1).take 2) / 1024 % 2, Lib.beNat ((xs.drop 1).take 2) / 2048 % 2, Lib.beNat ((xs.drop 1).take 2) / 4096 % 2, Lib.beNat ((xs.drop 1).take 2) / 8192 % 2, Lib.beNat ((xs.drop 3).take 2), Lib.beNat ((xs.drop 5).take 8), Lib.beNat ((xs.drop 61).take 8), Lib.beNat ((xs.drop 69).take 8), Lib.beNat ((xs.drop 93).take 2)] [(xs.drop 13).take 32, (xs.drop 45).take 16, (xs.drop 77).take 16, (xs.drop 95).take (Lib.beNat ((xs.drop 93).take 2))] (xs.drop (95 + Lib.beNat ((xs.drop 93).take 2))) :=
  fun A n c B0 B1 w hs hB0 hB1 hnc => (srd_key_all xs h4 hn A n c B0 B1 w hs hB0 hB1 hnc).mono fun e w' h => h.2.2 hd h12
theorem srd_key_no (xs : List UInt8) (hd : xs.length - 95 < Lib.beNat ((xs.drop 93).take 2)) (h4 : 95 ≤ xs.length) (hn : xs.length ≤ 1000) : SrdNo 49 xs :=
  fun A n c B0 w hs hB0 hnc => (srd_key_all xs h4 hn A n c B0 0 w hs hB0 (Nat.zero_le _) hnc).mono fun e w' h => h.1 hd
end Go.Proofs.YtphmklgbbpiafaaGreat
