/-
  Key: what told makes of it. No condition.
-/
import Derived.Deep.Cut
import Derived.Deep.CutRange
import Derived.Deep.RegionHeld3
import Derived.Test.YtphmklgbbpiafaaGreatMplsE
import Derived.Test.YtphmklgbbpiafaaGreatFldA
import Derived.Test.YtphmklgbbpiafaaGreatLayA
import Derived.Test.YtphmklgbbpiafaaGreatStpC
namespace Go.Proofs.YtphmklgbbpiafaaGreat
open Go Go.RowKit
set_option linter.unusedVariables false
set_option linter.unusedSimpArgs false
attribute [local go_sem] sd_drewN ad_drewN
theorem far_sn {w : World} {l gx i j : Nat} {u : Value} {O : Obj} (hne : gx ≠ l) (hg : gx < w.heap.size) : ((w.setCell ⟨l, j, none⟩ u).alloc O).cell? ⟨gx, i, none⟩ = w.cell? ⟨gx, i, none⟩ := by
  have e : ((w.setCell ⟨l, j, none⟩ u).alloc O).heap[gx]? = w.heap[gx]? := (Below.heap_alloc _ _ gx (by simpa [World.setCell] using hg)).trans (Below.heap_setCell _ _ _ _ hne)
  exact World.cell?_of_block (w := w) e
set_option maxRecDepth 1000000 in
set_option maxHeartbeats 100000000 in
theorem told_key (n0 n1 n2 n3 n4 n5 n6 n7 n8 n9 n10 n11 n12 n13 n14 n15 n16 : Nat) (h0 : n0 < 256) (h1 : n1 < 8) (h2 : n2 < 2) (h3 : n3 < 4) (h4 : n4 < 2) (h5 : n5 < 2) (h6 : n6 < 2) (h7 : n7 < 2) (h8 : n8 < 2) (h9 : n9 < 2) (h10 : n10 < 2) (h11 : n11 < 2) (h12 : n12 < 65536) (h13 : n13 < 18446744073709551616) (h14 : n14 < 18446744073709551616) (h15 : n15 < 18446744073709551616) (h16 : n16 < 65536) (d0 d1 d2 d3 : List UInt8) (hd0 : d0.length ≤ 1000) (hd1 : d1.length ≤ 1000) (hd2 : d2.length ≤ 1000) (hd3 : d3.length ≤ 1000) (pay : List UInt8) (hp : pay.length ≤ 1000) : Tolds 100 105 pay (Fld.dat4 (fun Q0 q0 Q1 q1 Q2 q2 Q3 q3 => [.int .u8 n0, .int .u8 n1, .int .u8 n2, .int .u8 n3, .bool (bt n4), .bool (bt n5), .bool (bt n6), .bool (bt n7), .bool (bt n8), .bool (bt n9), .bool (bt n10), .bool (bt n11), .int .u16 n12, .int .u64 n13, .slice Q0 d0.length q0, .slice Q1 d1.length q1, .int .u64 n14, .int .u64 n15, .slice Q2 d2.length q2, .int .u16 n16, .slice Q3 d3.length q3]) d0 d1 d2 d3) [n0, n1, n2, n3, n4, n5, n6, n7, n8, n9, n10, n11, n12, n13, n14, n15, n16] [d0, d1, d2, d3] := by
  intro gx Cv Ap cp fs w hx hs hF
  refine calls_hid fun R hR => ?_
  obtain ⟨Q0, q0, Q1, q1, Q2, q2, Q3, q3, rfl, hQ0, hQ1, hQ2, hQ3⟩ := hF
  have hlt := hx.lt
  have HX := Lib.hid hx
  have HS := Lib.hid hs
  have HQ0 := Lib.hid hQ0
  have HQ1 := Lib.hid hQ1
  have HQ2 := Lib.hid hQ2
  have HQ3 := Lib.hid hQ3
  clear hx hs hQ0 hQ1 hQ2 hQ3
  have ta73 : ∀ W, (Instr.typeAssert (.iface 100 (.pointer (some ⟨gx, 0, none⟩))) 20 73 true).run Tryz.prog W = .ok (.tuple #[.pointer none, .bool false]) W := fun _ => by kernel_rfl
  have ta81 : ∀ W, (Instr.typeAssert (.iface 100 (.pointer (some ⟨gx, 0, none⟩))) 20 81 true).run Tryz.prog W = .ok (.tuple #[.pointer none, .bool false]) W := fun _ => by kernel_rfl
  have ta85 : ∀ W, (Instr.typeAssert (.iface 100 (.pointer (some ⟨gx, 0, none⟩))) 20 85 true).run Tryz.prog W = .ok (.tuple #[.pointer none, .bool false]) W := fun _ => by kernel_rfl
  have ta88 : ∀ W, (Instr.typeAssert (.iface 100 (.pointer (some ⟨gx, 0, none⟩))) 20 88 true).run Tryz.prog W = .ok (.tuple #[.pointer none, .bool false]) W := fun _ => by kernel_rfl
  have ta92 : ∀ W, (Instr.typeAssert (.iface 100 (.pointer (some ⟨gx, 0, none⟩))) 20 92 true).run Tryz.prog W = .ok (.tuple #[.pointer none, .bool false]) W := fun _ => by kernel_rfl
  have ta185 : ∀ W, (Instr.typeAssert (.iface 100 (.pointer (some ⟨gx, 0, none⟩))) 20 185 true).run Tryz.prog W = .ok (.tuple #[.pointer none, .bool false]) W := fun _ => by kernel_rfl
  have ta190 : ∀ W, (Instr.typeAssert (.iface 100 (.pointer (some ⟨gx, 0, none⟩))) 20 190 true).run Tryz.prog W = .ok (.tuple #[.pointer none, .bool false]) W := fun _ => by kernel_rfl
  have ta96 : ∀ W, (Instr.typeAssert (.iface 100 (.pointer (some ⟨gx, 0, none⟩))) 20 96 true).run Tryz.prog W = .ok (.tuple #[.pointer none, .bool false]) W := fun _ => by kernel_rfl
  have ta100 : ∀ W, (Instr.typeAssert (.iface 100 (.pointer (some ⟨gx, 0, none⟩))) 20 100 true).run Tryz.prog W = .ok (.tuple #[.pointer (some ⟨gx, 0, none⟩), .bool true]) W := fun _ => by kernel_rfl
  go_enter Tryz.func59, Tryz.ntmps59
  go_wp2_with fail
  refine (clone_new Ap pay.length cp pay _ ((HS.out.below ((Below.refl _ _).alloc (Nat.le_refl _) _)).more (by simp)) (by omega)).mono ?_
  rintro e w1 ⟨A1, c1, rfl, hf1, hb1, hs1⟩
  have hz := hb1.size
  simp only [World.size_alloc] at hz
  have hx1 := (HX.out.alloc _).below hb1 (by simp; omega)
  have hres := (Bk.new w 27 [.slice none 0 0, .slice none 0 0, .slice none 0 0, .slice none 0 0]).below hb1 (by simp)
  have HX1 := Lib.hid hx1
  have HRES := Lib.hid hres
  have HB1 := Lib.hid hb1
  have HF1 := Lib.hid hf1
  have HS1 := Lib.hid hs1
  clear hb1 hf1 hs1 hx1 hres
  go_wp2_with fail
  clear ta73 ta81 ta85 ta88 ta92 ta185 ta190 ta96 ta100
  obtain ⟨w2, hW⟩ : ∃ w2, w2 = w1.alloc (.cells #[.slice none 0 0, .slice none 0 0, .slice none 0 0, .slice A1 pay.length c1] 27) := ⟨_, rfl⟩
  obtain ⟨l, hl⟩ : ∃ l, l = w1.heap.size := ⟨_, rfl⟩
  rw [← hW, ← hl]
  have hx2 : Bk w2 gx 105 [Cv, .slice Ap pay.length cp, .int .u8 n0, .int .u8 n1, .int .u8 n2, .int .u8 n3, .bool (bt n4), .bool (bt n5), .bool (bt n6), .bool (bt n7), .bool (bt n8), .bool (bt n9), .bool (bt n10), .bool (bt n11), .int .u16 n12, .int .u64 n13, .slice Q0 d0.length q0, .slice Q1 d1.length q1, .int .u64 n14, .int .u64 n15, .slice Q2 d2.length q2, .int .u16 n16, .slice Q3 d3.length q3] := by rw [hW]; exact HX1.out.alloc _
  have hl2 : Bk w2 l 27 [.slice none 0 0, .slice none 0 0, .slice none 0 0, .slice A1 pay.length c1] := by rw [hW, hl]; exact Bk.new _ _ _
  have hr2 : Bk w2 w.heap.size 27 [.slice none 0 0, .slice none 0 0, .slice none 0 0, .slice none 0 0] := by rw [hW]; exact HRES.out.alloc _
  have hb2 : Below w.heap.size w w2 := by rw [hW]; exact (((Below.refl _ w).alloc (Nat.le_refl _) _).trans (HB1.out.mono (by simp))).alloc (by omega) _
  have hs2 : Sl w2 l A1 pay.length (bcs pay) := by rw [hW, hl]; exact HS1.out.below ((Below.refl _ _).alloc (Nat.le_refl _) _)
  have hsz : w2.heap.size = l + 1 := by rw [hW, hl]; simp
  have hl0 : w.heap.size < l := by omega
  have hne : gx ≠ l := by omega
  have hls : l < w2.heap.size := by omega
  have hgs : gx < w2.heap.size := by omega
  have hne2 : w.heap.size ≠ l := by omega
  have c2 := hx2.cell 2
  have c3 := hx2.cell 3
  have c4 := hx2.cell 4
  have c5 := hx2.cell 5
  have c6 := hx2.cell 6
  have c7 := hx2.cell 7
  have c8 := hx2.cell 8
  have c9 := hx2.cell 9
  have c10 := hx2.cell 10
  have c11 := hx2.cell 11
  have c12 := hx2.cell 12
  have c13 := hx2.cell 13
  have c14 := hx2.cell 14
  have c15 := hx2.cell 15
  have c18 := hx2.cell 18
  have c19 := hx2.cell 19
  have c21 := hx2.cell 21
  have l0 := hl2.cell 0
  have l1 := hl2.cell 1
  have l2 := hl2.cell 2
  have l3 := hl2.cell 3
  have m0 := hl2.frozen 0
  simp only [List.getElem?_cons_zero, List.getElem?_cons_succ] at c2 c3 c4 c5 c6 c7 c8 c9 c10 c11 c12 c13 c14 c15 c18 c19 c21 l0 l1 l2 l3
  have HX2 := Lib.hid hx2
  have HL2 := Lib.hid hl2
  have HR2 := Lib.hid hr2
  have HB2 := Lib.hid hb2
  have HS2 := Lib.hid hs2
  have HSZ := Lib.hid hsz
  clear hW hl hx2 hl2 hr2 hb2 hs2 hsz
  go_cut [6] from 232 to 317 (fun v6 wc => v6 = .pointer (some ⟨l, 0, none⟩) ∧ wc = ((w2.setCell ⟨l, 0, none⟩ (.slice (some ⟨w2.heap.size, 0, none⟩) 17 17)).alloc (.cells #[.int .u64 n0, .int .u64 n1, .int .u64 n2, .int .u64 n3, .int .u64 n4, .int .u64 n5, .int .u64 n6, .int .u64 n7, .int .u64 n8, .int .u64 n9, .int .u64 n10, .int .u64 n11, .int .u64 n12, .int .u64 n13, .int .u64 n14, .int .u64 n15, .int .u64 n16] 46)).drew)
  case first =>
    try simp only [List.append_eq, List.cons_append, List.nil_append]
    refine wp_frame 232 86 ?_
    intro pre mid post hpre hmid hpost
    simp only [List.drop_succ_cons, List.drop_zero, List.take_succ_cons, List.take_zero] at hmid
    have hlen : pre.length = 232 := by rw [hpre]; kernel_rfl
    have hpl : 318 ≤ (pre ++ (mid ++ post)).length := by rw [List.length_append, hlen, hmid]; simp only [List.length_append, List.length_cons, List.length_nil]; omega
    have fr6 : (pre ++ (mid ++ post))[6]? = some (.pointer (some ⟨l, 0, none⟩)) := by rw [hpre]; kernel_rfl
    have frx : (pre ++ (mid ++ post))[15]? = some (.pointer (some ⟨gx, 0, none⟩)) := by rw [hpre]; kernel_rfl
    obtain ⟨fr, hfr⟩ : ∃ fr, fr = pre ++ (mid ++ post) := ⟨_, rfl⟩
    rw [← hfr] at hpl fr6 frx ⊢
    have HPRE := Lib.hid hpre
    have HMID := Lib.hid hmid
    have HPOST := Lib.hid hpost
    have HFR := Lib.hid hfr
    have HLEN := Lib.hid hlen
    have hlng : Lng 318 fr := hpl
    have hset0 : ∀ (l : List Value) (i : Nat) (v : Value), Lng 318 (l.set i v) = Lng 318 l := fun _ i v => by simp only [Lng, List.length_set]
    have hget : ∀ (l : List Value) (i : Nat) (v : Value), Lng 318 l → i < 318 → (l.set i v)[i]? = some v := fun _ _ v h hi => h.get_ hi v
    clear hpre hmid hpost hfr hlen hpl
    refine startC (S := fun w' => w'.cell? ⟨gx, 2, none⟩ = some (.int .u8 n0) ∧ w'.cell? ⟨gx, 3, none⟩ = some (.int .u8 n1) ∧ w'.cell? ⟨gx, 4, none⟩ = some (.int .u8 n2) ∧ w'.cell? ⟨gx, 5, none⟩ = some (.int .u8 n3) ∧ w'.cell? ⟨gx, 6, none⟩ = some (.bool (bt n4)) ∧ w'.cell? ⟨gx, 7, none⟩ = some (.bool (bt n5)) ∧ w'.cell? ⟨gx, 8, none⟩ = some (.bool (bt n6)) ∧ w'.cell? ⟨gx, 9, none⟩ = some (.bool (bt n7)) ∧ w'.cell? ⟨gx, 10, none⟩ = some (.bool (bt n8)) ∧ w'.cell? ⟨gx, 11, none⟩ = some (.bool (bt n9)) ∧ w'.cell? ⟨gx, 12, none⟩ = some (.bool (bt n10)) ∧ w'.cell? ⟨gx, 13, none⟩ = some (.bool (bt n11)) ∧ w'.cell? ⟨gx, 14, none⟩ = some (.int .u16 n12) ∧ w'.cell? ⟨gx, 15, none⟩ = some (.int .u64 n13) ∧ w'.cell? ⟨gx, 18, none⟩ = some (.int .u64 n14) ∧ w'.cell? ⟨gx, 19, none⟩ = some (.int .u64 n15) ∧ w'.cell? ⟨gx, 21, none⟩ = some (.int .u16 n16)) 87 [false, false, false, false, false, false, false, false, false, false, false, false, false, false, false, false, false, false, false, false, false, false, false, false, false, false, false, false, false, false, false, false, false, false, false, false, false, false, false, false, false, false, false, false, false, false, false, false, false, false, false, false, false, false, false, false, false, false, false, false, false, false, false, false, false, false, false, false, false, false, false, false, false, false, false, false, false, false, false, false, false, false, false, false, false, false, false] 232 rfl rfl (by kernel_rfl) (by kernel_rfl) ?_ (fun hlaw hHeld => ?_)
    · first | exact ⟨(far_sa hne hgs).trans (HX2.out.cell 2), (far_sa hne hgs).trans (HX2.out.cell 3), (far_sa hne hgs).trans (HX2.out.cell 4), (far_sa hne hgs).trans (HX2.out.cell 5), (far_sa hne hgs).trans (HX2.out.cell 6), (far_sa hne hgs).trans (HX2.out.cell 7), (far_sa hne hgs).trans (HX2.out.cell 8), (far_sa hne hgs).trans (HX2.out.cell 9), (far_sa hne hgs).trans (HX2.out.cell 10), (far_sa hne hgs).trans (HX2.out.cell 11), (far_sa hne hgs).trans (HX2.out.cell 12), (far_sa hne hgs).trans (HX2.out.cell 13), (far_sa hne hgs).trans (HX2.out.cell 14), (far_sa hne hgs).trans (HX2.out.cell 15), (far_sa hne hgs).trans (HX2.out.cell 18), (far_sa hne hgs).trans (HX2.out.cell 19), (far_sa hne hgs).trans (HX2.out.cell 21)⟩ | go_keep
    refine takeC hlaw (i := 0) (v := ?_) rfl (by kernel_rfl) (by kernel_rfl) ?_ (by assumption) ?_
    rotate_left
    · intro w hSw
      try dsimp only at hSw
      go_simp
      try with_reducible rfl
    simp only [Act.put, List.setIfInBounds_toArray, List.set_cons_zero, List.set_cons_succ]
    refine takeC hlaw (i := 1) (v := ?_) rfl (by kernel_rfl) (by kernel_rfl) ?_ (by assumption) ?_
    rotate_left
    · intro w hSw
      try dsimp only at hSw
      go_simp
      try with_reducible rfl
    simp only [Act.put, List.setIfInBounds_toArray, List.set_cons_zero, List.set_cons_succ]
    refine takeC hlaw (i := 2) (v := ?_) rfl (by kernel_rfl) (by kernel_rfl) ?_ (by assumption) ?_
    rotate_left
    · intro w hSw
      try dsimp only at hSw
      go_simp
      try with_reducible rfl
    simp only [Act.put, List.setIfInBounds_toArray, List.set_cons_zero, List.set_cons_succ]
    refine takeC hlaw (i := 3) (v := ?_) rfl (by kernel_rfl) (by kernel_rfl) ?_ (by assumption) ?_
    rotate_left
    · intro w hSw
      try dsimp only at hSw
      go_simp
      try with_reducible rfl
    simp only [Act.put, List.setIfInBounds_toArray, List.set_cons_zero, List.set_cons_succ]
    refine takeC hlaw (i := 4) (v := ?_) rfl (by kernel_rfl) (by kernel_rfl) ?_ (by assumption) ?_
    rotate_left
    · intro w hSw
      try dsimp only at hSw
      go_simp
      try with_reducible rfl
    simp only [Act.put, List.setIfInBounds_toArray, List.set_cons_zero, List.set_cons_succ]
    refine takeC hlaw (i := 5) (v := ?_) rfl (by kernel_rfl) (by kernel_rfl) ?_ (by assumption) ?_
    rotate_left
    · intro w hSw
      try dsimp only at hSw
      go_simp
      try with_reducible rfl
    simp only [Act.put, List.setIfInBounds_toArray, List.set_cons_zero, List.set_cons_succ]
    refine takeC hlaw (i := 6) (v := ?_) rfl (by kernel_rfl) (by kernel_rfl) ?_ (by assumption) ?_
    rotate_left
    · intro w hSw
      try dsimp only at hSw
      go_simp
      try with_reducible rfl
    simp only [Act.put, List.setIfInBounds_toArray, List.set_cons_zero, List.set_cons_succ]
    refine takeC hlaw (i := 7) (v := ?_) rfl (by kernel_rfl) (by kernel_rfl) ?_ (by assumption) ?_
    rotate_left
    · intro w hSw
      try dsimp only at hSw
      go_simp
      try with_reducible rfl
    simp only [Act.put, List.setIfInBounds_toArray, List.set_cons_zero, List.set_cons_succ]
    refine takeC hlaw (i := 8) (v := ?_) rfl (by kernel_rfl) (by kernel_rfl) ?_ (by assumption) ?_
    rotate_left
    · intro w hSw
      try dsimp only at hSw
      go_simp
      try with_reducible rfl
    simp only [Act.put, List.setIfInBounds_toArray, List.set_cons_zero, List.set_cons_succ]
    refine takeC hlaw (i := 9) (v := ?_) rfl (by kernel_rfl) (by kernel_rfl) ?_ (by assumption) ?_
    rotate_left
    · intro w hSw
      try dsimp only at hSw
      go_simp
      try with_reducible rfl
    simp only [Act.put, List.setIfInBounds_toArray, List.set_cons_zero, List.set_cons_succ]
    refine takeC hlaw (i := 10) (v := ?_) rfl (by kernel_rfl) (by kernel_rfl) ?_ (by assumption) ?_
    rotate_left
    · intro w hSw
      try dsimp only at hSw
      go_simp
      try with_reducible rfl
    simp only [Act.put, List.setIfInBounds_toArray, List.set_cons_zero, List.set_cons_succ]
    refine takeC hlaw (i := 11) (v := ?_) rfl (by kernel_rfl) (by kernel_rfl) ?_ (by assumption) ?_
    rotate_left
    · intro w hSw
      try dsimp only at hSw
      go_simp
      try with_reducible rfl
    simp only [Act.put, List.setIfInBounds_toArray, List.set_cons_zero, List.set_cons_succ]
    refine takeC hlaw (i := 12) (v := ?_) rfl (by kernel_rfl) (by kernel_rfl) ?_ (by assumption) ?_
    rotate_left
    · intro w hSw
      try dsimp only at hSw
      go_simp
      try with_reducible rfl
    simp only [Act.put, List.setIfInBounds_toArray, List.set_cons_zero, List.set_cons_succ]
    refine takeC hlaw (i := 13) (v := ?_) rfl (by kernel_rfl) (by kernel_rfl) ?_ (by assumption) ?_
    rotate_left
    · intro w hSw
      try dsimp only at hSw
      go_simp
      try with_reducible rfl
    simp only [Act.put, List.setIfInBounds_toArray, List.set_cons_zero, List.set_cons_succ]
    refine takeC hlaw (i := 14) (v := ?_) rfl (by kernel_rfl) (by kernel_rfl) ?_ (by assumption) ?_
    rotate_left
    · intro w hSw
      try dsimp only at hSw
      go_simp
      try with_reducible rfl
    simp only [Act.put, List.setIfInBounds_toArray, List.set_cons_zero, List.set_cons_succ]
    refine takeC hlaw (i := 15) (v := ?_) rfl (by kernel_rfl) (by kernel_rfl) ?_ (by assumption) ?_
    rotate_left
    · intro w hSw
      try dsimp only at hSw
      go_simp
      try with_reducible rfl
    simp only [Act.put, List.setIfInBounds_toArray, List.set_cons_zero, List.set_cons_succ]
    refine takeC hlaw (i := 16) (v := ?_) rfl (by kernel_rfl) (by kernel_rfl) ?_ (by assumption) ?_
    rotate_left
    · intro w hSw
      try dsimp only at hSw
      go_simp
      try with_reducible rfl
    simp only [Act.put, List.setIfInBounds_toArray, List.set_cons_zero, List.set_cons_succ]
    refine takeC hlaw (i := 17) (v := ?_) rfl (by kernel_rfl) (by kernel_rfl) ?_ (by assumption) ?_
    rotate_left
    · intro w hSw
      try dsimp only at hSw
      go_simp
      try with_reducible rfl
    simp only [Act.put, List.setIfInBounds_toArray, List.set_cons_zero, List.set_cons_succ]
    refine takeC hlaw (i := 18) (v := ?_) rfl (by kernel_rfl) (by kernel_rfl) ?_ (by assumption) ?_
    rotate_left
    · intro w hSw
      try dsimp only at hSw
      go_simp
      try with_reducible rfl
    simp only [Act.put, List.setIfInBounds_toArray, List.set_cons_zero, List.set_cons_succ]
    refine takeC hlaw (i := 19) (v := ?_) rfl (by kernel_rfl) (by kernel_rfl) ?_ (by assumption) ?_
    rotate_left
    · intro w hSw
      try dsimp only at hSw
      go_simp
      try with_reducible rfl
    simp only [Act.put, List.setIfInBounds_toArray, List.set_cons_zero, List.set_cons_succ]
    refine takeC hlaw (i := 20) (v := ?_) rfl (by kernel_rfl) (by kernel_rfl) ?_ (by assumption) ?_
    rotate_left
    · intro w hSw
      try dsimp only at hSw
      go_simp
      try with_reducible rfl
    simp only [Act.put, List.setIfInBounds_toArray, List.set_cons_zero, List.set_cons_succ]
    refine takeC hlaw (i := 21) (v := ?_) rfl (by kernel_rfl) (by kernel_rfl) ?_ (by assumption) ?_
    rotate_left
    · intro w hSw
      try dsimp only at hSw
      go_simp
      try with_reducible rfl
    simp only [Act.put, List.setIfInBounds_toArray, List.set_cons_zero, List.set_cons_succ]
    refine takeC hlaw (i := 22) (v := ?_) rfl (by kernel_rfl) (by kernel_rfl) ?_ (by assumption) ?_
    rotate_left
    · intro w hSw
      try dsimp only at hSw
      go_simp
      try with_reducible rfl
    simp only [Act.put, List.setIfInBounds_toArray, List.set_cons_zero, List.set_cons_succ]
    refine takeC hlaw (i := 23) (v := ?_) rfl (by kernel_rfl) (by kernel_rfl) ?_ (by assumption) ?_
    rotate_left
    · intro w hSw
      try dsimp only at hSw
      go_simp
      try with_reducible rfl
    simp only [Act.put, List.setIfInBounds_toArray, List.set_cons_zero, List.set_cons_succ]
    refine takeC hlaw (i := 24) (v := ?_) rfl (by kernel_rfl) (by kernel_rfl) ?_ (by assumption) ?_
    rotate_left
    · intro w hSw
      try dsimp only at hSw
      go_simp
      try with_reducible rfl
    simp only [Act.put, List.setIfInBounds_toArray, List.set_cons_zero, List.set_cons_succ]
    refine takeC hlaw (i := 26) (v := ?_) rfl (by kernel_rfl) (by kernel_rfl) ?_ (by assumption) ?_
    rotate_left
    · intro w hSw
      try dsimp only at hSw
      go_simp
      try with_reducible rfl
    simp only [Act.put, List.setIfInBounds_toArray, List.set_cons_zero, List.set_cons_succ]
    refine takeC hlaw (i := 27) (v := ?_) rfl (by kernel_rfl) (by kernel_rfl) ?_ (by assumption) ?_
    rotate_left
    · intro w hSw
      try dsimp only at hSw
      go_simp
      try with_reducible rfl
    simp only [Act.put, List.setIfInBounds_toArray, List.set_cons_zero, List.set_cons_succ]
    refine takeC hlaw (i := 28) (v := ?_) rfl (by kernel_rfl) (by kernel_rfl) ?_ (by assumption) ?_
    rotate_left
    · intro w hSw
      try dsimp only at hSw
      go_simp
      try with_reducible rfl
    simp only [Act.put, List.setIfInBounds_toArray, List.set_cons_zero, List.set_cons_succ]
    refine takeC hlaw (i := 29) (v := ?_) rfl (by kernel_rfl) (by kernel_rfl) ?_ (by assumption) ?_
    rotate_left
    · intro w hSw
      try dsimp only at hSw
      go_simp
      try with_reducible rfl
    simp only [Act.put, List.setIfInBounds_toArray, List.set_cons_zero, List.set_cons_succ]
    refine takeC hlaw (i := 31) (v := ?_) rfl (by kernel_rfl) (by kernel_rfl) ?_ (by assumption) ?_
    rotate_left
    · intro w hSw
      try dsimp only at hSw
      go_simp
      try with_reducible rfl
    simp only [Act.put, List.setIfInBounds_toArray, List.set_cons_zero, List.set_cons_succ]
    refine takeC hlaw (i := 32) (v := ?_) rfl (by kernel_rfl) (by kernel_rfl) ?_ (by assumption) ?_
    rotate_left
    · intro w hSw
      try dsimp only at hSw
      go_simp
      try with_reducible rfl
    simp only [Act.put, List.setIfInBounds_toArray, List.set_cons_zero, List.set_cons_succ]
    refine takeC hlaw (i := 33) (v := ?_) rfl (by kernel_rfl) (by kernel_rfl) ?_ (by assumption) ?_
    rotate_left
    · intro w hSw
      try dsimp only at hSw
      go_simp
      try with_reducible rfl
    simp only [Act.put, List.setIfInBounds_toArray, List.set_cons_zero, List.set_cons_succ]
    refine takeC hlaw (i := 34) (v := ?_) rfl (by kernel_rfl) (by kernel_rfl) ?_ (by assumption) ?_
    rotate_left
    · intro w hSw
      try dsimp only at hSw
      go_simp
      try with_reducible rfl
    simp only [Act.put, List.setIfInBounds_toArray, List.set_cons_zero, List.set_cons_succ]
    refine takeC hlaw (i := 36) (v := ?_) rfl (by kernel_rfl) (by kernel_rfl) ?_ (by assumption) ?_
    rotate_left
    · intro w hSw
      try dsimp only at hSw
      go_simp
      try with_reducible rfl
    simp only [Act.put, List.setIfInBounds_toArray, List.set_cons_zero, List.set_cons_succ]
    refine takeC hlaw (i := 37) (v := ?_) rfl (by kernel_rfl) (by kernel_rfl) ?_ (by assumption) ?_
    rotate_left
    · intro w hSw
      try dsimp only at hSw
      go_simp
      try with_reducible rfl
    simp only [Act.put, List.setIfInBounds_toArray, List.set_cons_zero, List.set_cons_succ]
    refine takeC hlaw (i := 38) (v := ?_) rfl (by kernel_rfl) (by kernel_rfl) ?_ (by assumption) ?_
    rotate_left
    · intro w hSw
      try dsimp only at hSw
      go_simp
      try with_reducible rfl
    simp only [Act.put, List.setIfInBounds_toArray, List.set_cons_zero, List.set_cons_succ]
    refine takeC hlaw (i := 39) (v := ?_) rfl (by kernel_rfl) (by kernel_rfl) ?_ (by assumption) ?_
    rotate_left
    · intro w hSw
      try dsimp only at hSw
      go_simp
      try with_reducible rfl
    simp only [Act.put, List.setIfInBounds_toArray, List.set_cons_zero, List.set_cons_succ]
    refine takeC hlaw (i := 41) (v := ?_) rfl (by kernel_rfl) (by kernel_rfl) ?_ (by assumption) ?_
    rotate_left
    · intro w hSw
      try dsimp only at hSw
      go_simp
      try with_reducible rfl
    simp only [Act.put, List.setIfInBounds_toArray, List.set_cons_zero, List.set_cons_succ]
    refine takeC hlaw (i := 42) (v := ?_) rfl (by kernel_rfl) (by kernel_rfl) ?_ (by assumption) ?_
    rotate_left
    · intro w hSw
      try dsimp only at hSw
      go_simp
      try with_reducible rfl
    simp only [Act.put, List.setIfInBounds_toArray, List.set_cons_zero, List.set_cons_succ]
    refine takeC hlaw (i := 43) (v := ?_) rfl (by kernel_rfl) (by kernel_rfl) ?_ (by assumption) ?_
    rotate_left
    · intro w hSw
      try dsimp only at hSw
      go_simp
      try with_reducible rfl
    simp only [Act.put, List.setIfInBounds_toArray, List.set_cons_zero, List.set_cons_succ]
    refine takeC hlaw (i := 44) (v := ?_) rfl (by kernel_rfl) (by kernel_rfl) ?_ (by assumption) ?_
    rotate_left
    · intro w hSw
      try dsimp only at hSw
      go_simp
      try with_reducible rfl
    simp only [Act.put, List.setIfInBounds_toArray, List.set_cons_zero, List.set_cons_succ]
    refine takeC hlaw (i := 46) (v := ?_) rfl (by kernel_rfl) (by kernel_rfl) ?_ (by assumption) ?_
    rotate_left
    · intro w hSw
      try dsimp only at hSw
      go_simp
      try with_reducible rfl
    simp only [Act.put, List.setIfInBounds_toArray, List.set_cons_zero, List.set_cons_succ]
    refine takeC hlaw (i := 47) (v := ?_) rfl (by kernel_rfl) (by kernel_rfl) ?_ (by assumption) ?_
    rotate_left
    · intro w hSw
      try dsimp only at hSw
      go_simp
      try with_reducible rfl
    simp only [Act.put, List.setIfInBounds_toArray, List.set_cons_zero, List.set_cons_succ]
    refine takeC hlaw (i := 48) (v := ?_) rfl (by kernel_rfl) (by kernel_rfl) ?_ (by assumption) ?_
    rotate_left
    · intro w hSw
      try dsimp only at hSw
      go_simp
      try with_reducible rfl
    simp only [Act.put, List.setIfInBounds_toArray, List.set_cons_zero, List.set_cons_succ]
    refine takeC hlaw (i := 49) (v := ?_) rfl (by kernel_rfl) (by kernel_rfl) ?_ (by assumption) ?_
    rotate_left
    · intro w hSw
      try dsimp only at hSw
      go_simp
      try with_reducible rfl
    simp only [Act.put, List.setIfInBounds_toArray, List.set_cons_zero, List.set_cons_succ]
    refine takeC hlaw (i := 51) (v := ?_) rfl (by kernel_rfl) (by kernel_rfl) ?_ (by assumption) ?_
    rotate_left
    · intro w hSw
      try dsimp only at hSw
      go_simp
      try with_reducible rfl
    simp only [Act.put, List.setIfInBounds_toArray, List.set_cons_zero, List.set_cons_succ]
    refine takeC hlaw (i := 52) (v := ?_) rfl (by kernel_rfl) (by kernel_rfl) ?_ (by assumption) ?_
    rotate_left
    · intro w hSw
      try dsimp only at hSw
      go_simp
      try with_reducible rfl
    simp only [Act.put, List.setIfInBounds_toArray, List.set_cons_zero, List.set_cons_succ]
    refine takeC hlaw (i := 53) (v := ?_) rfl (by kernel_rfl) (by kernel_rfl) ?_ (by assumption) ?_
    rotate_left
    · intro w hSw
      try dsimp only at hSw
      go_simp
      try with_reducible rfl
    simp only [Act.put, List.setIfInBounds_toArray, List.set_cons_zero, List.set_cons_succ]
    refine takeC hlaw (i := 54) (v := ?_) rfl (by kernel_rfl) (by kernel_rfl) ?_ (by assumption) ?_
    rotate_left
    · intro w hSw
      try dsimp only at hSw
      go_simp
      try with_reducible rfl
    simp only [Act.put, List.setIfInBounds_toArray, List.set_cons_zero, List.set_cons_succ]
    refine takeC hlaw (i := 56) (v := ?_) rfl (by kernel_rfl) (by kernel_rfl) ?_ (by assumption) ?_
    rotate_left
    · intro w hSw
      try dsimp only at hSw
      go_simp
      try with_reducible rfl
    simp only [Act.put, List.setIfInBounds_toArray, List.set_cons_zero, List.set_cons_succ]
    refine takeC hlaw (i := 57) (v := ?_) rfl (by kernel_rfl) (by kernel_rfl) ?_ (by assumption) ?_
    rotate_left
    · intro w hSw
      try dsimp only at hSw
      go_simp
      try with_reducible rfl
    simp only [Act.put, List.setIfInBounds_toArray, List.set_cons_zero, List.set_cons_succ]
    refine takeC hlaw (i := 58) (v := ?_) rfl (by kernel_rfl) (by kernel_rfl) ?_ (by assumption) ?_
    rotate_left
    · intro w hSw
      try dsimp only at hSw
      go_simp
      try with_reducible rfl
    simp only [Act.put, List.setIfInBounds_toArray, List.set_cons_zero, List.set_cons_succ]
    refine takeC hlaw (i := 59) (v := ?_) rfl (by kernel_rfl) (by kernel_rfl) ?_ (by assumption) ?_
    rotate_left
    · intro w hSw
      try dsimp only at hSw
      go_simp
      try with_reducible rfl
    simp only [Act.put, List.setIfInBounds_toArray, List.set_cons_zero, List.set_cons_succ]
    refine takeC hlaw (i := 61) (v := ?_) rfl (by kernel_rfl) (by kernel_rfl) ?_ (by assumption) ?_
    rotate_left
    · intro w hSw
      try dsimp only at hSw
      go_simp
      try with_reducible rfl
    simp only [Act.put, List.setIfInBounds_toArray, List.set_cons_zero, List.set_cons_succ]
    refine takeC hlaw (i := 62) (v := ?_) rfl (by kernel_rfl) (by kernel_rfl) ?_ (by assumption) ?_
    rotate_left
    · intro w hSw
      try dsimp only at hSw
      go_simp
      try with_reducible rfl
    simp only [Act.put, List.setIfInBounds_toArray, List.set_cons_zero, List.set_cons_succ]
    refine takeC hlaw (i := 63) (v := ?_) rfl (by kernel_rfl) (by kernel_rfl) ?_ (by assumption) ?_
    rotate_left
    · intro w hSw
      try dsimp only at hSw
      go_simp
      try with_reducible rfl
    simp only [Act.put, List.setIfInBounds_toArray, List.set_cons_zero, List.set_cons_succ]
    refine takeC hlaw (i := 64) (v := ?_) rfl (by kernel_rfl) (by kernel_rfl) ?_ (by assumption) ?_
    rotate_left
    · intro w hSw
      try dsimp only at hSw
      go_simp
      try with_reducible rfl
    simp only [Act.put, List.setIfInBounds_toArray, List.set_cons_zero, List.set_cons_succ]
    refine takeC hlaw (i := 65) (v := ?_) rfl (by kernel_rfl) (by kernel_rfl) ?_ (by assumption) ?_
    rotate_left
    · intro w hSw
      try dsimp only at hSw
      go_simp
      try with_reducible rfl
    simp only [Act.put, List.setIfInBounds_toArray, List.set_cons_zero, List.set_cons_succ]
    refine takeC hlaw (i := 66) (v := ?_) rfl (by kernel_rfl) (by kernel_rfl) ?_ (by assumption) ?_
    rotate_left
    · intro w hSw
      try dsimp only at hSw
      go_simp
      try with_reducible rfl
    simp only [Act.put, List.setIfInBounds_toArray, List.set_cons_zero, List.set_cons_succ]
    refine takeC hlaw (i := 67) (v := ?_) rfl (by kernel_rfl) (by kernel_rfl) ?_ (by assumption) ?_
    rotate_left
    · intro w hSw
      try dsimp only at hSw
      go_simp
      try with_reducible rfl
    simp only [Act.put, List.setIfInBounds_toArray, List.set_cons_zero, List.set_cons_succ]
    refine takeC hlaw (i := 68) (v := ?_) rfl (by kernel_rfl) (by kernel_rfl) ?_ (by assumption) ?_
    rotate_left
    · intro w hSw
      try dsimp only at hSw
      go_simp
      try with_reducible rfl
    simp only [Act.put, List.setIfInBounds_toArray, List.set_cons_zero, List.set_cons_succ]
    refine takeC hlaw (i := 69) (v := ?_) rfl (by kernel_rfl) (by kernel_rfl) ?_ (by assumption) ?_
    rotate_left
    · intro w hSw
      try dsimp only at hSw
      go_simp
      try with_reducible rfl
    simp only [Act.put, List.setIfInBounds_toArray, List.set_cons_zero, List.set_cons_succ]
    refine takeC hlaw (i := 70) (v := ?_) rfl (by kernel_rfl) (by kernel_rfl) ?_ (by assumption) ?_
    rotate_left
    · intro w hSw
      try dsimp only at hSw
      go_simp
      try with_reducible rfl
    simp only [Act.put, List.setIfInBounds_toArray, List.set_cons_zero, List.set_cons_succ]
    refine takeC hlaw (i := 71) (v := ?_) rfl (by kernel_rfl) (by kernel_rfl) ?_ (by assumption) ?_
    rotate_left
    · intro w hSw
      try dsimp only at hSw
      go_simp
      try with_reducible rfl
    simp only [Act.put, List.setIfInBounds_toArray, List.set_cons_zero, List.set_cons_succ]
    refine takeC hlaw (i := 72) (v := ?_) rfl (by kernel_rfl) (by kernel_rfl) ?_ (by assumption) ?_
    rotate_left
    · intro w hSw
      try dsimp only at hSw
      go_simp
      try with_reducible rfl
    simp only [Act.put, List.setIfInBounds_toArray, List.set_cons_zero, List.set_cons_succ]
    refine takeC hlaw (i := 73) (v := ?_) rfl (by kernel_rfl) (by kernel_rfl) ?_ (by assumption) ?_
    rotate_left
    · intro w hSw
      try dsimp only at hSw
      go_simp
      try with_reducible rfl
    simp only [Act.put, List.setIfInBounds_toArray, List.set_cons_zero, List.set_cons_succ]
    refine takeC hlaw (i := 74) (v := ?_) rfl (by kernel_rfl) (by kernel_rfl) ?_ (by assumption) ?_
    rotate_left
    · intro w hSw
      try dsimp only at hSw
      go_simp
      try with_reducible rfl
    simp only [Act.put, List.setIfInBounds_toArray, List.set_cons_zero, List.set_cons_succ]
    refine takeC hlaw (i := 75) (v := ?_) rfl (by kernel_rfl) (by kernel_rfl) ?_ (by assumption) ?_
    rotate_left
    · intro w hSw
      try dsimp only at hSw
      go_simp
      try with_reducible rfl
    simp only [Act.put, List.setIfInBounds_toArray, List.set_cons_zero, List.set_cons_succ]
    refine takeC hlaw (i := 76) (v := ?_) rfl (by kernel_rfl) (by kernel_rfl) ?_ (by assumption) ?_
    rotate_left
    · intro w hSw
      try dsimp only at hSw
      go_simp
      try with_reducible rfl
    simp only [Act.put, List.setIfInBounds_toArray, List.set_cons_zero, List.set_cons_succ]
    refine takeC hlaw (i := 77) (v := ?_) rfl (by kernel_rfl) (by kernel_rfl) ?_ (by assumption) ?_
    rotate_left
    · intro w hSw
      try dsimp only at hSw
      go_simp
      try with_reducible rfl
    simp only [Act.put, List.setIfInBounds_toArray, List.set_cons_zero, List.set_cons_succ]
    refine takeC hlaw (i := 78) (v := ?_) rfl (by kernel_rfl) (by kernel_rfl) ?_ (by assumption) ?_
    rotate_left
    · intro w hSw
      try dsimp only at hSw
      go_simp
      try with_reducible rfl
    simp only [Act.put, List.setIfInBounds_toArray, List.set_cons_zero, List.set_cons_succ]
    refine takeC hlaw (i := 79) (v := ?_) rfl (by kernel_rfl) (by kernel_rfl) ?_ (by assumption) ?_
    rotate_left
    · intro w hSw
      try dsimp only at hSw
      go_simp
      try with_reducible rfl
    simp only [Act.put, List.setIfInBounds_toArray, List.set_cons_zero, List.set_cons_succ]
    refine takeC hlaw (i := 80) (v := ?_) rfl (by kernel_rfl) (by kernel_rfl) ?_ (by assumption) ?_
    rotate_left
    · intro w hSw
      try dsimp only at hSw
      go_simp
      try with_reducible rfl
    simp only [Act.put, List.setIfInBounds_toArray, List.set_cons_zero, List.set_cons_succ]
    refine takeC hlaw (i := 81) (v := ?_) rfl (by kernel_rfl) (by kernel_rfl) ?_ (by assumption) ?_
    rotate_left
    · intro w hSw
      try dsimp only at hSw
      go_simp
      try with_reducible rfl
    simp only [Act.put, List.setIfInBounds_toArray, List.set_cons_zero, List.set_cons_succ]
    refine takeC hlaw (i := 82) (v := ?_) rfl (by kernel_rfl) (by kernel_rfl) ?_ (by assumption) ?_
    rotate_left
    · intro w hSw
      try dsimp only at hSw
      go_simp
      try with_reducible rfl
    simp only [Act.put, List.setIfInBounds_toArray, List.set_cons_zero, List.set_cons_succ]
    refine bitC (i := 25) (by kernel_rfl) rfl n4 h4 (by assumption) ?_ ?_
    · go_simp
    simp only [Act.put, List.setIfInBounds_toArray, List.set_cons_zero, List.set_cons_succ]
    refine bitC (i := 30) (by kernel_rfl) rfl n5 h5 (by assumption) ?_ ?_
    · go_simp
    simp only [Act.put, List.setIfInBounds_toArray, List.set_cons_zero, List.set_cons_succ]
    refine bitC (i := 35) (by kernel_rfl) rfl n6 h6 (by assumption) ?_ ?_
    · go_simp
    simp only [Act.put, List.setIfInBounds_toArray, List.set_cons_zero, List.set_cons_succ]
    refine bitC (i := 40) (by kernel_rfl) rfl n7 h7 (by assumption) ?_ ?_
    · go_simp
    simp only [Act.put, List.setIfInBounds_toArray, List.set_cons_zero, List.set_cons_succ]
    refine bitC (i := 45) (by kernel_rfl) rfl n8 h8 (by assumption) ?_ ?_
    · go_simp
    simp only [Act.put, List.setIfInBounds_toArray, List.set_cons_zero, List.set_cons_succ]
    refine bitC (i := 50) (by kernel_rfl) rfl n9 h9 (by assumption) ?_ ?_
    · go_simp
    simp only [Act.put, List.setIfInBounds_toArray, List.set_cons_zero, List.set_cons_succ]
    refine bitC (i := 55) (by kernel_rfl) rfl n10 h10 (by assumption) ?_ ?_
    · go_simp
    simp only [Act.put, List.setIfInBounds_toArray, List.set_cons_zero, List.set_cons_succ]
    refine bitC (i := 60) (by kernel_rfl) rfl n11 h11 (by assumption) ?_ ?_
    · go_simp
    simp only [Act.put, List.setIfInBounds_toArray, List.set_cons_zero, List.set_cons_succ]
    refine readyC (i := 83) (by kernel_rfl) rfl (fun K hK => ?_)
    go_simp
    refine hK.out _ _ ?_ (fun hHeld2 => ?_)
    · try dsimp only
      first | assumption | exact ⟨(far_sa hne hgs).trans (HX2.out.cell 2), (far_sa hne hgs).trans (HX2.out.cell 3), (far_sa hne hgs).trans (HX2.out.cell 4), (far_sa hne hgs).trans (HX2.out.cell 5), (far_sa hne hgs).trans (HX2.out.cell 6), (far_sa hne hgs).trans (HX2.out.cell 7), (far_sa hne hgs).trans (HX2.out.cell 8), (far_sa hne hgs).trans (HX2.out.cell 9), (far_sa hne hgs).trans (HX2.out.cell 10), (far_sa hne hgs).trans (HX2.out.cell 11), (far_sa hne hgs).trans (HX2.out.cell 12), (far_sa hne hgs).trans (HX2.out.cell 13), (far_sa hne hgs).trans (HX2.out.cell 14), (far_sa hne hgs).trans (HX2.out.cell 15), (far_sa hne hgs).trans (HX2.out.cell 18), (far_sa hne hgs).trans (HX2.out.cell 19), (far_sa hne hgs).trans (HX2.out.cell 21)⟩ | go_keep
    clear hK K hHeld
    have hHeld := hHeld2
    clear hHeld2
    simp only [Act.put, List.setIfInBounds_toArray, List.set_cons_zero, List.set_cons_succ]
    refine takeC hlaw (i := 84) (v := ?_) rfl (by kernel_rfl) (by kernel_rfl) ?_ (by assumption) ?_
    rotate_left
    · intro w hSw
      try dsimp only at hSw
      go_simp
      try with_reducible rfl
    simp only [Act.put, List.setIfInBounds_toArray, List.set_cons_zero, List.set_cons_succ]
    refine takeC hlaw (i := 85) (v := ?_) rfl (by kernel_rfl) (by kernel_rfl) ?_ (by assumption) ?_
    rotate_left
    · intro w hSw
      try dsimp only at hSw
      go_simp
      try with_reducible rfl
    simp only [Act.put, List.setIfInBounds_toArray, List.set_cons_zero, List.set_cons_succ]
    refine readyC (i := 86) (by kernel_rfl) rfl (fun K hK => ?_)
    go_simp
    refine hK.out _ _ ?_ (fun hHeld2 => ?_)
    · try dsimp only
      first | assumption | exact ⟨(far_sa hne hgs).trans (HX2.out.cell 2), (far_sa hne hgs).trans (HX2.out.cell 3), (far_sa hne hgs).trans (HX2.out.cell 4), (far_sa hne hgs).trans (HX2.out.cell 5), (far_sa hne hgs).trans (HX2.out.cell 6), (far_sa hne hgs).trans (HX2.out.cell 7), (far_sa hne hgs).trans (HX2.out.cell 8), (far_sa hne hgs).trans (HX2.out.cell 9), (far_sa hne hgs).trans (HX2.out.cell 10), (far_sa hne hgs).trans (HX2.out.cell 11), (far_sa hne hgs).trans (HX2.out.cell 12), (far_sa hne hgs).trans (HX2.out.cell 13), (far_sa hne hgs).trans (HX2.out.cell 14), (far_sa hne hgs).trans (HX2.out.cell 15), (far_sa hne hgs).trans (HX2.out.cell 18), (far_sa hne hgs).trans (HX2.out.cell 19), (far_sa hne hgs).trans (HX2.out.cell 21)⟩ | go_keep
    clear hK K hHeld
    have hHeld := hHeld2
    clear hHeld2
    simp only [Act.put, List.setIfInBounds_toArray, List.set_cons_zero, List.set_cons_succ]
    refine wpAnyH_done (by kernel_rfl) ?_ _
    refine NoPanic.normal ?_
    have hfr := HFR.out
    have hpre := HPRE.out
    have hmid := HMID.out
    have hpost := HPOST.out
    have hlen := HLEN.out
    have hset : ∀ (X : List Value) (t : Nat) (v : Value), 232 ≤ t → (pre ++ X).set t v = pre ++ X.set (t - 232) v := fun X t v ht => by rw [List.set_append_right _ _ (by omega), hlen]
    rw [hfr, hmid]
    simp only [hset, Nat.reduceLeDiff, Nat.reduceSub, List.cons_append, List.nil_append, List.set_cons_zero, List.set_cons_succ]
    rw [hpre, hpost]
    simp only [List.take_succ_cons, List.take_zero, List.drop_succ_cons, List.drop_zero, List.cons_append, List.nil_append]
    clear hset hfr hmid hpre hpost hlen HFR HPRE HMID HPOST HLEN hlng hset0 hget fr6 frx
    go_wp2_with fail
    go_meet
    case rel =>
      refine ⟨rfl, ?_⟩
      simp (disch := omega) only [IntWalk.u64_in]
  case rest =>
  obtain ⟨rfl, rfl⟩ := hcut
  obtain ⟨ns, hns⟩ : ∃ ns : List Value, ns = [.int .u64 n0, .int .u64 n1, .int .u64 n2, .int .u64 n3, .int .u64 n4, .int .u64 n5, .int .u64 n6, .int .u64 n7, .int .u64 n8, .int .u64 n9, .int .u64 n10, .int .u64 n11, .int .u64 n12, .int .u64 n13, .int .u64 n14, .int .u64 n15, .int .u64 n16] := ⟨_, rfl⟩
  rw [← hns]
  obtain ⟨w3, hW3⟩ : ∃ w3, w3 = ((w2.setCell ⟨l, 0, none⟩ (.slice (some ⟨w2.heap.size, 0, none⟩) 17 17)).alloc (.cells ns.toArray 46)).drew := ⟨_, rfl⟩
  rw [← hW3]
  have hx3 : Bk w3 gx 105 [Cv, .slice Ap pay.length cp, .int .u8 n0, .int .u8 n1, .int .u8 n2, .int .u8 n3, .bool (bt n4), .bool (bt n5), .bool (bt n6), .bool (bt n7), .bool (bt n8), .bool (bt n9), .bool (bt n10), .bool (bt n11), .int .u16 n12, .int .u64 n13, .slice Q0 d0.length q0, .slice Q1 d1.length q1, .int .u64 n14, .int .u64 n15, .slice Q2 d2.length q2, .int .u16 n16, .slice Q3 d3.length q3] := by rw [hW3]; exact ((HX2.out.far (p := ⟨l, 0, none⟩) hne _).alloc _).drew
  have hl3 : Bk w3 l 27 [.slice (some ⟨w2.heap.size, 0, none⟩) 17 17, .slice none 0 0, .slice none 0 0, .slice A1 pay.length c1] := by rw [hW3]; exact ((HL2.out.set_ 0 _).alloc _).drew
  have hr3 : Bk w3 w.heap.size 27 [.slice none 0 0, .slice none 0 0, .slice none 0 0, .slice none 0 0] := by rw [hW3]; exact ((HR2.out.far (p := ⟨l, 0, none⟩) hne2 _).alloc _).drew
  have hb3 : Below w.heap.size w w3 := by rw [hW3]; exact ((HB2.out.setCell (p := ⟨l, 0, none⟩) (by simp; omega) _).alloc (by simp; omega) _).drew
  have hs3 : Sl w3 w3.heap.size A1 pay.length (bcs pay) := by
    rw [hW3]
    exact (HS2.out.keep (fun g hg => (Below.heap_alloc _ _ g (by simp; omega)).trans (Below.heap_setCell _ _ _ _ (by simp; omega)))).more (by simp; omega)
  have hN3 : Sl w3 w3.heap.size (some ⟨w2.heap.size, 0, none⟩) 17 (ncs [n0, n1, n2, n3, n4, n5, n6, n7, n8, n9, n10, n11, n12, n13, n14, n15, n16]) := by
    have := Sl.new (w := w2.setCell ⟨l, 0, none⟩ (.slice (some ⟨w2.heap.size, 0, none⟩) 17 17)) (t := 46) (cs := ns) (n := 17) (by rw [hns]; rfl)
    rw [hW3]
    refine Sl.cast ((this.keep (fun _ _ => rfl)).more (by simp)) ?_ |>.castA (by simp)
    rw [hns]; simp [ncs]
  have hz3 := hb3.size
  have hz2 : l < w3.heap.size := by rw [hW3]; simp; omega
  have x16 := hx3.cell 16
  have x17 := hx3.cell 17
  have x20 := hx3.cell 20
  have x22 := hx3.cell 22
  simp only [List.getElem?_cons_zero, List.getElem?_cons_succ] at x16 x17 x20 x22
  have HQd0 := Lib.hid ((HQ0.out.below hb3.drew).more hb3.drew.size)
  have HB3d := Lib.hid hb3.drew
  have HX3d := Lib.hid hx3.drew
  have HL3d := Lib.hid hl3.drew
  have HR3d := Lib.hid hr3.drew
  have HS3 := Lib.hid hs3
  have HN3 := Lib.hid hN3
  have HS3 := Lib.hid (hs3.keep (w' := w3.drew) (fun _ _ => rfl))
  have HN3 := Lib.hid (hN3.keep (w' := w3.drew) (fun _ _ => rfl))
  clear hns hW3 hx3 hl3 hr3 hb3 hs3 hN3 c2 c3 c4 c5 c6 c7 c8 c9 c10 c11 c12 c13 c14 c15 c18 c19 c21 l0 l1 l2 l3 m0
  go_wp2_with fail
  go_region_held3 (fun w' => w'.cell? ⟨gx, 16, none⟩ = some (.slice Q0 d0.length q0) ∧ w'.cell? ⟨gx, 17, none⟩ = some (.slice Q1 d1.length q1) ∧ w'.cell? ⟨gx, 20, none⟩ = some (.slice Q2 d2.length q2) ∧ w'.cell? ⟨gx, 22, none⟩ = some (.slice Q3 d3.length q3))
    (first | with_reducible exact ⟨y16, y17, y20, y22⟩ | with_reducible exact ⟨low_drew.trans x16, low_drew.trans x17, low_drew.trans x20, low_drew.trans x22⟩ | with_reducible exact ⟨(low_alloc0 hgs4).trans y16, (low_alloc0 hgs4).trans y17, (low_alloc0 hgs4).trans y20, (low_alloc0 hgs4).trans y22⟩ | with_reducible exact ⟨(far_sn hne hgs4).trans y16, (far_sn hne hgs4).trans y17, (far_sn hne hgs4).trans y20, (far_sn hne hgs4).trans y22⟩ | with_reducible exact ⟨(far_sa hne hgs4).trans y16, (far_sa hne hgs4).trans y17, (far_sa hne hgs4).trans y20, (far_sa hne hgs4).trans y22⟩ | go_keep)
    ((go_at_call 40; (first | ((with_reducible refine (clone_new Q0 d0.length q0 d0 _ HQd0.out (by omega)).mono ?_); rintro e w40 ⟨A40, c40, rfl, hf, hb, hsn⟩; have HB40 := Lib.hid (HB3d.out.trans (hb.mono HB3d.out.size)); have HX40 := Lib.hid (HX3d.out.below hb HX3d.out.lt); have HL40 := Lib.hid (HL3d.out.below hb HL3d.out.lt); have HR40 := Lib.hid (HR3d.out.below hb HR3d.out.lt); have HF40 := Lib.hid hf; have HZ40 := Lib.hid hb.size; have HN3 := Lib.hid ((HN3.out.below hb).more hb.size); have HS3 := Lib.hid ((HS3.out.below hb).more hb.size); have HS40 := Lib.hid hsn; have y16 := HX40.out.cell 16; have y17 := HX40.out.cell 17; have y20 := HX40.out.cell 20; have y22 := HX40.out.cell 22; simp only [List.getElem?_cons_zero, List.getElem?_cons_succ] at y16 y17 y20 y22; clear hb hf hsn) | ((with_reducible refine (clone_new Q1 d1.length q1 d1 _ ((HQ1.out.below HB40.out).more HB40.out.size) (by omega)).mono ?_); rintro e w41 ⟨A41, c41, rfl, hf, hb, hsn⟩; have HB41 := Lib.hid (HB40.out.trans (hb.mono HB40.out.size)); have HX41 := Lib.hid (HX40.out.below hb HX40.out.lt); have HL41 := Lib.hid (HL40.out.below hb HL40.out.lt); have HR41 := Lib.hid (HR40.out.below hb HR40.out.lt); have HF41 := Lib.hid hf; have HZ41 := Lib.hid hb.size; have HN3 := Lib.hid ((HN3.out.below hb).more hb.size); have HS3 := Lib.hid ((HS3.out.below hb).more hb.size); have HS40 := Lib.hid ((HS40.out.below hb).more hb.size); have HS41 := Lib.hid hsn; have y16 := HX41.out.cell 16; have y17 := HX41.out.cell 17; have y20 := HX41.out.cell 20; have y22 := HX41.out.cell 22; simp only [List.getElem?_cons_zero, List.getElem?_cons_succ] at y16 y17 y20 y22; clear hb hf hsn) | ((with_reducible refine (clone_new Q2 d2.length q2 d2 _ ((HQ2.out.below HB41.out).more HB41.out.size) (by omega)).mono ?_); rintro e w42 ⟨A42, c42, rfl, hf, hb, hsn⟩; have HB42 := Lib.hid (HB41.out.trans (hb.mono HB41.out.size)); have HX42 := Lib.hid (HX41.out.below hb HX41.out.lt); have HL42 := Lib.hid (HL41.out.below hb HL41.out.lt); have HR42 := Lib.hid (HR41.out.below hb HR41.out.lt); have HF42 := Lib.hid hf; have HZ42 := Lib.hid hb.size; have HN3 := Lib.hid ((HN3.out.below hb).more hb.size); have HS3 := Lib.hid ((HS3.out.below hb).more hb.size); have HS40 := Lib.hid ((HS40.out.below hb).more hb.size); have HS41 := Lib.hid ((HS41.out.below hb).more hb.size); have HS42 := Lib.hid hsn; have y16 := HX42.out.cell 16; have y17 := HX42.out.cell 17; have y20 := HX42.out.cell 20; have y22 := HX42.out.cell 22; simp only [List.getElem?_cons_zero, List.getElem?_cons_succ] at y16 y17 y20 y22; clear hb hf hsn) | ((with_reducible refine (clone_new Q3 d3.length q3 d3 _ ((HQ3.out.below HB42.out).more HB42.out.size) (by omega)).mono ?_); rintro e w43 ⟨A43, c43, rfl, hf, hb, hsn⟩; have HB43 := Lib.hid (HB42.out.trans (hb.mono HB42.out.size)); have HX43 := Lib.hid (HX42.out.below hb HX42.out.lt); have HL43 := Lib.hid (HL42.out.below hb HL42.out.lt); have HR43 := Lib.hid (HR42.out.below hb HR42.out.lt); have HF43 := Lib.hid hf; have HZ43 := Lib.hid hb.size; have HN3 := Lib.hid ((HN3.out.below hb).more hb.size); have HS3 := Lib.hid ((HS3.out.below hb).more hb.size); have HS40 := Lib.hid ((HS40.out.below hb).more hb.size); have HS41 := Lib.hid ((HS41.out.below hb).more hb.size); have HS42 := Lib.hid ((HS42.out.below hb).more hb.size); have HS43 := Lib.hid hsn; have y16 := HX43.out.cell 16; have y17 := HX43.out.cell 17; have y20 := HX43.out.cell 20; have y22 := HX43.out.cell 22; simp only [List.getElem?_cons_zero, List.getElem?_cons_succ] at y16 y17 y20 y22; clear hb hf hsn; have hgs4 := HX43.out.lt; have hls4 := HL43.out.lt; have m1 := HL43.out.frozen 1; have l1 := HL43.out.cell 1; simp only [List.getElem?_cons_zero, List.getElem?_cons_succ] at l1))))
  obtain ⟨dv, hdv⟩ : ∃ dv : List Value, dv = [.slice A40 d0.length c40, .slice A41 d1.length c41, .slice A42 d2.length c42, .slice A43 d3.length c43] := ⟨_, rfl⟩
  rw [← hdv]
  obtain ⟨w5, hW5⟩ : ∃ w5, w5 = ((w43.setCell ⟨l, 1, none⟩ (.slice (some ⟨w43.heap.size, 0, none⟩) 4 4)).alloc (.cells dv.toArray 25)) := ⟨_, rfl⟩
  rw [← hW5]
  have hls4 : l < w43.heap.size := HL43.out.lt
  have hz4 := HB43.out.size
  have hrw := HR43.out.lt
  have hl5 : Bk w5 l 27 [.slice (some ⟨w2.heap.size, 0, none⟩) 17 17, .slice (some ⟨w43.heap.size, 0, none⟩) 4 4, .slice none 0 0, .slice A1 pay.length c1] := by rw [hW5]; exact ((HL43.out.set_ 1 _).alloc _)
  have hr5 : Bk w5 w.heap.size 27 [.slice none 0 0, .slice none 0 0, .slice none 0 0, .slice none 0 0] := by rw [hW5]; exact ((HR43.out.far (p := ⟨l, 1, none⟩) hne2 _).alloc _)
  have hb5 : Below w.heap.size w w5 := by rw [hW5]; exact (HB43.out.setCell (p := ⟨l, 1, none⟩) (by simp; omega) _).alloc (by simp; omega) _
  have hk5 : ∀ (A : Option Addr) (n : Nat) (xs : List Value), Sl w43 w43.heap.size A n xs → (0 < n → ∀ q, A = some q → q.block ≠ l) → Sl w5 w5.heap.size A n xs := fun A n xs h hA => by
    rcases Nat.eq_zero_or_pos n with h0 | h0
    · exact ⟨h.1, fun h1 => absurd h1 (by omega)⟩
    · rw [hW5]
      exact ((h.grown_ (only_set (grownBy_refl' _ (some l)) (.inl rfl) _) (Nat.le_refl _) (hA h0)).below ((Below.refl _ _).alloc (by simp) _)).more (by simp)
  have hN5 : Sl w5 w5.heap.size (some ⟨w2.heap.size, 0, none⟩) 17 (ncs [n0, n1, n2, n3, n4, n5, n6, n7, n8, n9, n10, n11, n12, n13, n14, n15, n16]) := hk5 _ _ _ HN3.out (fun _ q e => by cases e; simp; omega)
  have hS5 : Sl w5 w5.heap.size A1 pay.length (bcs pay) := hk5 _ _ _ HS3.out (fun h0 q e => by
    obtain ⟨g', o', e', hb', _⟩ := HS2.out.2 h0
    rw [e] at e'
    cases e'
    simp
    omega)
  have hza := HZ40.out
  have hzb := HZ41.out
  have hzc := HZ42.out
  have hzd := HZ43.out
  simp only [World.drew] at hza
  have hD50 : Sl w5 w5.heap.size A40 d0.length (bcs d0) := hk5 _ _ _ HS40.out (fun _ q e => by have := HF40.out q e; first | omega | (simp only [World.drew] at this; omega))
  have hD51 : Sl w5 w5.heap.size A41 d1.length (bcs d1) := hk5 _ _ _ HS41.out (fun _ q e => by have := HF41.out q e; first | omega | (simp only [World.drew] at this; omega))
  have hD52 : Sl w5 w5.heap.size A42 d2.length (bcs d2) := hk5 _ _ _ HS42.out (fun _ q e => by have := HF42.out q e; first | omega | (simp only [World.drew] at this; omega))
  have hD53 : Sl w5 w5.heap.size A43 d3.length (bcs d3) := hk5 _ _ _ HS43.out (fun _ q e => by have := HF43.out q e; first | omega | (simp only [World.drew] at this; omega))
  have hV5 : Sl w5 w5.heap.size (some ⟨w43.heap.size, 0, none⟩) 4 dv := by
    have := Sl.new (w := w43.setCell ⟨l, 1, none⟩ (.slice (some ⟨w43.heap.size, 0, none⟩) 4 4)) (t := 25) (cs := dv) (n := 4) (by rw [hdv]; rfl)
    rw [hW5]
    exact (this.more (by simp)).castA (by simp)
  have hE5 : EachF w5 w5.heap.size 0 (w.heap.size + 1) dv [d0, d1, d2, d3] := by rw [hdv]; exact EachF.cons (EachF.cons (EachF.cons (EachF.cons (EachF.nil _ _ _ _) hD53 (Fr2.of_fr HF43.out (by omega))) hD52 (Fr2.of_fr HF42.out (by omega))) hD51 (Fr2.of_fr HF41.out (by omega))) hD50 (Fr2.of_fr HF40.out (by simp only [World.drew]; omega))
  have l0 := hl5.cell 0
  have l1 := hl5.cell 1
  have l2 := hl5.cell 2
  have l3 := hl5.cell 3
  have k0 := hr5.cell 0
  have k1 := hr5.cell 1
  have k2 := hr5.cell 2
  have k3 := hr5.cell 3
  have f0 := hr5.frozen 0
  have f1 := hr5.frozen 1
  have f2 := hr5.frozen 2
  have f3 := hr5.frozen 3
  simp only [List.getElem?_cons_zero, List.getElem?_cons_succ] at l0 l1 l2 l3 k0 k1 k2 k3
  have HR5 := Lib.hid hr5
  have HB5 := Lib.hid hb5
  have HS5 := Lib.hid hS5
  have HN5 := Lib.hid hN5
  have HV5 := Lib.hid hV5
  have HE5 := Lib.hid hE5
  clear hdv hW5 hl5 hr5 hb5 hS5 hN5 hV5 hE5 hD50 hD51 hD52 hD53 hk5 m1 hza hzb hzc hzd
  go_wp2_with fail
  have hLL := LyrF.mk (B0 := 0) (B1 := w.heap.size + 1) (cN := 17) (cD := 4) (AP := none) (cP := 0) (cB := c1) HN5.out HV5.out HE5.out HS5.out (Fr2.new (by omega)) (Fr2.new (by omega)) (Fr2.of_fr HF1.out (by simp))
  have hfin := read_end (w := w) hLL HB5.out (Nat.zero_le _) (Nat.lt_succ_self _) (Nat.le_refl _)
  obtain ⟨z0, z1, z2, z3⟩ := set4_cells HR5.out (.slice (some ⟨w2.heap.size, 0, none⟩) 17 17) (.slice (some ⟨w43.heap.size, 0, none⟩) 4 4) (.slice none 0 0) (.slice A1 pay.length c1)
  exact bodyPost_ret (v := .tuple #[.agg #[.slice (some ⟨w2.heap.size, 0, none⟩) 17 17, .slice (some ⟨w43.heap.size, 0, none⟩) 4 4, .slice none 0 0, .slice A1 pay.length c1], .bool true]) (by simp [results, Tryz.results59, go_sem, z0, z1, z2, z3]) rfl (hR.out _ _ ⟨_, rfl, hfin.1, hfin.2⟩)
end Go.Proofs.YtphmklgbbpiafaaGreat
