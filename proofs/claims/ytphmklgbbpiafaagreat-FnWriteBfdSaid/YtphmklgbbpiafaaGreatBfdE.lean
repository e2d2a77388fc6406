/-
  Bfd: what told makes of it. No condition.
-/
import Derived.Deep.Cut
import Derived.Deep.CutRange
import Derived.Deep.RegionHeld3
import Derived.Test.YtphmklgbbpiafaaGreatMplsE
import Derived.Test.YtphmklgbbpiafaaGreatStpC
namespace Go.Proofs.YtphmklgbbpiafaaGreat
open Go Go.RowKit
set_option linter.unusedVariables false
set_option linter.unusedSimpArgs false
attribute [local go_sem] sd_drewN ad_drewN
set_option maxRecDepth 1000000 in
set_option maxHeartbeats 100000000 in
theorem told_bfd (n0 n1 n2 n3 n4 n5 n6 n7 n8 n9 n10 n11 n12 n13 n14 : Nat) (h0 : n0 < 8) (h1 : n1 < 32) (h2 : n2 < 4) (h3 : n3 < 2) (h4 : n4 < 2) (h5 : n5 < 2) (h6 : n6 < 2) (h7 : n7 < 2) (h8 : n8 < 2) (h9 : n9 < 256) (h10 : n10 < 4294967296) (h11 : n11 < 4294967296) (h12 : n12 < 4294967296) (h13 : n13 < 4294967296) (h14 : n14 < 4294967296) (pay : List UInt8) (hp : pay.length ≤ 1000) : Tolds 125 134 pay (Fld.just [.int .u8 n0, .int .u8 n1, .int .u8 n2, .bool (bt n3), .bool (bt n4), .bool (bt n5), .bool (bt n6), .bool (bt n7), .bool (bt n8), .int .u8 n9, .int .u32 n10, .int .u32 n11, .int .u32 n12, .int .u32 n13, .int .u32 n14, .pointer none]) [n0, n1, n2, n3, n4, n5, n6, n7, n8, n9, n10, n11, n12, n13, n14] [] := by
  intro gx Cv Ap cp fs w hx hs hF
  refine calls_hid fun R hR => ?_
  simp only [Fld.just] at hF
  subst hF
  have hlt := hx.lt
  have HX := Lib.hid hx
  have HS := Lib.hid hs
  clear hx hs
  have ta73 : ∀ W, (Instr.typeAssert (.iface 125 (.pointer (some ⟨gx, 0, none⟩))) 20 73 true).run Tryz.prog W = .ok (.tuple #[.pointer none, .bool false]) W := fun _ => by kernel_rfl
  have ta81 : ∀ W, (Instr.typeAssert (.iface 125 (.pointer (some ⟨gx, 0, none⟩))) 20 81 true).run Tryz.prog W = .ok (.tuple #[.pointer none, .bool false]) W := fun _ => by kernel_rfl
  have ta85 : ∀ W, (Instr.typeAssert (.iface 125 (.pointer (some ⟨gx, 0, none⟩))) 20 85 true).run Tryz.prog W = .ok (.tuple #[.pointer none, .bool false]) W := fun _ => by kernel_rfl
  have ta88 : ∀ W, (Instr.typeAssert (.iface 125 (.pointer (some ⟨gx, 0, none⟩))) 20 88 true).run Tryz.prog W = .ok (.tuple #[.pointer none, .bool false]) W := fun _ => by kernel_rfl
  have ta92 : ∀ W, (Instr.typeAssert (.iface 125 (.pointer (some ⟨gx, 0, none⟩))) 20 92 true).run Tryz.prog W = .ok (.tuple #[.pointer none, .bool false]) W := fun _ => by kernel_rfl
  have ta185 : ∀ W, (Instr.typeAssert (.iface 125 (.pointer (some ⟨gx, 0, none⟩))) 20 185 true).run Tryz.prog W = .ok (.tuple #[.pointer none, .bool false]) W := fun _ => by kernel_rfl
  have ta190 : ∀ W, (Instr.typeAssert (.iface 125 (.pointer (some ⟨gx, 0, none⟩))) 20 190 true).run Tryz.prog W = .ok (.tuple #[.pointer none, .bool false]) W := fun _ => by kernel_rfl
  have ta96 : ∀ W, (Instr.typeAssert (.iface 125 (.pointer (some ⟨gx, 0, none⟩))) 20 96 true).run Tryz.prog W = .ok (.tuple #[.pointer none, .bool false]) W := fun _ => by kernel_rfl
  have ta100 : ∀ W, (Instr.typeAssert (.iface 125 (.pointer (some ⟨gx, 0, none⟩))) 20 100 true).run Tryz.prog W = .ok (.tuple #[.pointer none, .bool false]) W := fun _ => by kernel_rfl
  have ta106 : ∀ W, (Instr.typeAssert (.iface 125 (.pointer (some ⟨gx, 0, none⟩))) 20 106 true).run Tryz.prog W = .ok (.tuple #[.pointer none, .bool false]) W := fun _ => by kernel_rfl
  have ta111 : ∀ W, (Instr.typeAssert (.iface 125 (.pointer (some ⟨gx, 0, none⟩))) 20 111 true).run Tryz.prog W = .ok (.tuple #[.pointer none, .bool false]) W := fun _ => by kernel_rfl
  have ta191 : ∀ W, (Instr.typeAssert (.iface 125 (.pointer (some ⟨gx, 0, none⟩))) 20 191 true).run Tryz.prog W = .ok (.tuple #[.pointer none, .bool false]) W := fun _ => by kernel_rfl
  have ta115 : ∀ W, (Instr.typeAssert (.iface 125 (.pointer (some ⟨gx, 0, none⟩))) 20 115 true).run Tryz.prog W = .ok (.tuple #[.pointer none, .bool false]) W := fun _ => by kernel_rfl
  have ta198 : ∀ W, (Instr.typeAssert (.iface 125 (.pointer (some ⟨gx, 0, none⟩))) 20 198 true).run Tryz.prog W = .ok (.tuple #[.pointer none, .bool false]) W := fun _ => by kernel_rfl
  have ta122 : ∀ W, (Instr.typeAssert (.iface 125 (.pointer (some ⟨gx, 0, none⟩))) 20 122 true).run Tryz.prog W = .ok (.tuple #[.pointer none, .bool false]) W := fun _ => by kernel_rfl
  have ta201 : ∀ W, (Instr.typeAssert (.iface 125 (.pointer (some ⟨gx, 0, none⟩))) 20 201 true).run Tryz.prog W = .ok (.tuple #[.pointer none, .bool false]) W := fun _ => by kernel_rfl
  have ta125 : ∀ W, (Instr.typeAssert (.iface 125 (.pointer (some ⟨gx, 0, none⟩))) 20 125 true).run Tryz.prog W = .ok (.tuple #[.pointer (some ⟨gx, 0, none⟩), .bool true]) W := fun _ => by kernel_rfl
  go_enter Tryz.func59, Tryz.ntmps59
  go_wp2_with fail
  refine (clone_new Ap pay.length cp pay _ ((HS.out.below ((Below.refl _ _).alloc (Nat.le_refl _) _)).more (by simp)) (by omega)).mono ?_
  rintro e w1 ⟨A1, c1, rfl, hf1, hb1, hs1⟩
  have hz := hb1.size
  simp only [World.size_alloc] at hz
  have hx1 := (HX.out.alloc _).below hb1 (by simp; omega)
  have hres := (Bk.new w 27 [.slice none 0 0, .slice none 0 0, .slice none 0 0, .slice none 0 0]).below hb1 (by simp)
  have HX1 := Lib.hid hx1
  have HRES := Lib.hid hres
  have HB1 := Lib.hid hb1
  have HF1 := Lib.hid hf1
  have HS1 := Lib.hid hs1
  clear hb1 hf1 hs1 hx1 hres
  go_wp2_with fail
  clear ta73 ta81 ta85 ta88 ta92 ta185 ta190 ta96 ta100 ta106 ta111 ta191 ta115 ta198 ta122 ta201 ta125
  obtain ⟨w2, hW⟩ : ∃ w2, w2 = w1.alloc (.cells #[.slice none 0 0, .slice none 0 0, .slice none 0 0, .slice A1 pay.length c1] 27) := ⟨_, rfl⟩
  obtain ⟨l, hl⟩ : ∃ l, l = w1.heap.size := ⟨_, rfl⟩
  rw [← hW, ← hl]
  have hx2 : Bk w2 gx 134 [Cv, .slice Ap pay.length cp, .int .u8 n0, .int .u8 n1, .int .u8 n2, .bool (bt n3), .bool (bt n4), .bool (bt n5), .bool (bt n6), .bool (bt n7), .bool (bt n8), .int .u8 n9, .int .u32 n10, .int .u32 n11, .int .u32 n12, .int .u32 n13, .int .u32 n14, .pointer none] := by rw [hW]; exact HX1.out.alloc _
  have hl2 : Bk w2 l 27 [.slice none 0 0, .slice none 0 0, .slice none 0 0, .slice A1 pay.length c1] := by rw [hW, hl]; exact Bk.new _ _ _
  have hr2 : Bk w2 w.heap.size 27 [.slice none 0 0, .slice none 0 0, .slice none 0 0, .slice none 0 0] := by rw [hW]; exact HRES.out.alloc _
  have hb2 : Below w.heap.size w w2 := by rw [hW]; exact (((Below.refl _ w).alloc (Nat.le_refl _) _).trans (HB1.out.mono (by simp))).alloc (by omega) _
  have hs2 : Sl w2 l A1 pay.length (bcs pay) := by rw [hW, hl]; exact HS1.out.below ((Below.refl _ _).alloc (Nat.le_refl _) _)
  have hsz : w2.heap.size = l + 1 := by rw [hW, hl]; simp
  have hl0 : w.heap.size < l := by omega
  have hne : gx ≠ l := by omega
  have hls : l < w2.heap.size := by omega
  have hgs : gx < w2.heap.size := by omega
  have hne2 : w.heap.size ≠ l := by omega
  have c2 := hx2.cell 2
  have c3 := hx2.cell 3
  have c4 := hx2.cell 4
  have c5 := hx2.cell 5
  have c6 := hx2.cell 6
  have c7 := hx2.cell 7
  have c8 := hx2.cell 8
  have c9 := hx2.cell 9
  have c10 := hx2.cell 10
  have c11 := hx2.cell 11
  have c12 := hx2.cell 12
  have c13 := hx2.cell 13
  have c14 := hx2.cell 14
  have c15 := hx2.cell 15
  have c16 := hx2.cell 16
  have c17 := hx2.cell 17
  have l0 := hl2.cell 0
  have l1 := hl2.cell 1
  have l2 := hl2.cell 2
  have l3 := hl2.cell 3
  have m0 := hl2.frozen 0
  simp only [List.getElem?_cons_zero, List.getElem?_cons_succ] at c2 c3 c4 c5 c6 c7 c8 c9 c10 c11 c12 c13 c14 c15 c16 c17 l0 l1 l2 l3
  have HX2 := Lib.hid hx2
  have HL2 := Lib.hid hl2
  have HR2 := Lib.hid hr2
  have HB2 := Lib.hid hb2
  have HS2 := Lib.hid hs2
  have HSZ := Lib.hid hsz
  clear hW hl hx2 hl2 hr2 hb2 hs2 hsz
  go_cut [6] from 671 to 749 (fun v6 wc => v6 = .pointer (some ⟨l, 0, none⟩) ∧ wc = ((w2.setCell ⟨l, 0, none⟩ (.slice (some ⟨w2.heap.size, 0, none⟩) 15 15)).alloc (.cells #[.int .u64 n0, .int .u64 n1, .int .u64 n2, .int .u64 n3, .int .u64 n4, .int .u64 n5, .int .u64 n6, .int .u64 n7, .int .u64 n8, .int .u64 n9, .int .u64 n10, .int .u64 n11, .int .u64 n12, .int .u64 n13, .int .u64 n14] 46)).drew)
  case first =>
    try simp only [List.append_eq, List.cons_append, List.nil_append]
    refine wp_frame 671 79 ?_
    intro pre mid post hpre hmid hpost
    simp only [List.drop_succ_cons, List.drop_zero, List.take_succ_cons, List.take_zero] at hmid
    have hlen : pre.length = 671 := by rw [hpre]; kernel_rfl
    have hpl : 750 ≤ (pre ++ (mid ++ post)).length := by rw [List.length_append, hlen, hmid]; simp only [List.length_append, List.length_cons, List.length_nil]; omega
    have fr6 : (pre ++ (mid ++ post))[6]? = some (.pointer (some ⟨l, 0, none⟩)) := by rw [hpre]; kernel_rfl
    have frx : (pre ++ (mid ++ post))[27]? = some (.pointer (some ⟨gx, 0, none⟩)) := by rw [hpre]; kernel_rfl
    obtain ⟨fr, hfr⟩ : ∃ fr, fr = pre ++ (mid ++ post) := ⟨_, rfl⟩
    rw [← hfr] at hpl fr6 frx ⊢
    have HPRE := Lib.hid hpre
    have HMID := Lib.hid hmid
    have HPOST := Lib.hid hpost
    have HFR := Lib.hid hfr
    have HLEN := Lib.hid hlen
    have hlng : Lng 750 fr := hpl
    have hset0 : ∀ (l : List Value) (i : Nat) (v : Value), Lng 750 (l.set i v) = Lng 750 l := fun _ i v => by simp only [Lng, List.length_set]
    have hget : ∀ (l : List Value) (i : Nat) (v : Value), Lng 750 l → i < 750 → (l.set i v)[i]? = some v := fun _ _ v h hi => h.get_ hi v
    clear hpre hmid hpost hfr hlen hpl
    refine startC (S := fun w' => w'.cell? ⟨gx, 2, none⟩ = some (.int .u8 n0) ∧ w'.cell? ⟨gx, 3, none⟩ = some (.int .u8 n1) ∧ w'.cell? ⟨gx, 4, none⟩ = some (.int .u8 n2) ∧ w'.cell? ⟨gx, 5, none⟩ = some (.bool (bt n3)) ∧ w'.cell? ⟨gx, 6, none⟩ = some (.bool (bt n4)) ∧ w'.cell? ⟨gx, 7, none⟩ = some (.bool (bt n5)) ∧ w'.cell? ⟨gx, 8, none⟩ = some (.bool (bt n6)) ∧ w'.cell? ⟨gx, 9, none⟩ = some (.bool (bt n7)) ∧ w'.cell? ⟨gx, 10, none⟩ = some (.bool (bt n8)) ∧ w'.cell? ⟨gx, 11, none⟩ = some (.int .u8 n9) ∧ w'.cell? ⟨gx, 12, none⟩ = some (.int .u32 n10) ∧ w'.cell? ⟨gx, 13, none⟩ = some (.int .u32 n11) ∧ w'.cell? ⟨gx, 14, none⟩ = some (.int .u32 n12) ∧ w'.cell? ⟨gx, 15, none⟩ = some (.int .u32 n13) ∧ w'.cell? ⟨gx, 16, none⟩ = some (.int .u32 n14) ∧ w'.cell? ⟨gx, 17, none⟩ = some (.pointer none)) 80 [false, false, false, false, false, false, false, false, false, false, false, false, false, false, false, false, false, false, false, false, false, false, false, false, false, false, false, false, false, false, false, false, false, false, false, false, false, false, false, false, false, false, false, false, false, false, false, false, false, false, false, false, false, false, false, false, false, false, false, false, false, false, false, false, false, false, false, false, false, false, false, false, false, false, false, false, false, false, false, false] 671 rfl rfl (by kernel_rfl) (by kernel_rfl) ?_ (fun hlaw hHeld => ?_)
    · first | exact ⟨(far_sa hne hgs).trans (HX2.out.cell 2), (far_sa hne hgs).trans (HX2.out.cell 3), (far_sa hne hgs).trans (HX2.out.cell 4), (far_sa hne hgs).trans (HX2.out.cell 5), (far_sa hne hgs).trans (HX2.out.cell 6), (far_sa hne hgs).trans (HX2.out.cell 7), (far_sa hne hgs).trans (HX2.out.cell 8), (far_sa hne hgs).trans (HX2.out.cell 9), (far_sa hne hgs).trans (HX2.out.cell 10), (far_sa hne hgs).trans (HX2.out.cell 11), (far_sa hne hgs).trans (HX2.out.cell 12), (far_sa hne hgs).trans (HX2.out.cell 13), (far_sa hne hgs).trans (HX2.out.cell 14), (far_sa hne hgs).trans (HX2.out.cell 15), (far_sa hne hgs).trans (HX2.out.cell 16), (far_sa hne hgs).trans (HX2.out.cell 17)⟩ | go_keep
    refine takeC hlaw (i := 0) (v := ?_) rfl (by kernel_rfl) (by kernel_rfl) ?_ (by assumption) ?_
    rotate_left
    · intro w hSw
      try dsimp only at hSw
      go_simp
      try with_reducible rfl
    simp only [Act.put, List.setIfInBounds_toArray, List.set_cons_zero, List.set_cons_succ]
    refine takeC hlaw (i := 1) (v := ?_) rfl (by kernel_rfl) (by kernel_rfl) ?_ (by assumption) ?_
    rotate_left
    · intro w hSw
      try dsimp only at hSw
      go_simp
      try with_reducible rfl
    simp only [Act.put, List.setIfInBounds_toArray, List.set_cons_zero, List.set_cons_succ]
    refine takeC hlaw (i := 2) (v := ?_) rfl (by kernel_rfl) (by kernel_rfl) ?_ (by assumption) ?_
    rotate_left
    · intro w hSw
      try dsimp only at hSw
      go_simp
      try with_reducible rfl
    simp only [Act.put, List.setIfInBounds_toArray, List.set_cons_zero, List.set_cons_succ]
    refine takeC hlaw (i := 3) (v := ?_) rfl (by kernel_rfl) (by kernel_rfl) ?_ (by assumption) ?_
    rotate_left
    · intro w hSw
      try dsimp only at hSw
      go_simp
      try with_reducible rfl
    simp only [Act.put, List.setIfInBounds_toArray, List.set_cons_zero, List.set_cons_succ]
    refine takeC hlaw (i := 4) (v := ?_) rfl (by kernel_rfl) (by kernel_rfl) ?_ (by assumption) ?_
    rotate_left
    · intro w hSw
      try dsimp only at hSw
      go_simp
      try with_reducible rfl
    simp only [Act.put, List.setIfInBounds_toArray, List.set_cons_zero, List.set_cons_succ]
    refine takeC hlaw (i := 5) (v := ?_) rfl (by kernel_rfl) (by kernel_rfl) ?_ (by assumption) ?_
    rotate_left
    · intro w hSw
      try dsimp only at hSw
      go_simp
      try with_reducible rfl
    simp only [Act.put, List.setIfInBounds_toArray, List.set_cons_zero, List.set_cons_succ]
    refine takeC hlaw (i := 6) (v := ?_) rfl (by kernel_rfl) (by kernel_rfl) ?_ (by assumption) ?_
    rotate_left
    · intro w hSw
      try dsimp only at hSw
      go_simp
      try with_reducible rfl
    simp only [Act.put, List.setIfInBounds_toArray, List.set_cons_zero, List.set_cons_succ]
    refine takeC hlaw (i := 7) (v := ?_) rfl (by kernel_rfl) (by kernel_rfl) ?_ (by assumption) ?_
    rotate_left
    · intro w hSw
      try dsimp only at hSw
      go_simp
      try with_reducible rfl
    simp only [Act.put, List.setIfInBounds_toArray, List.set_cons_zero, List.set_cons_succ]
    refine takeC hlaw (i := 8) (v := ?_) rfl (by kernel_rfl) (by kernel_rfl) ?_ (by assumption) ?_
    rotate_left
    · intro w hSw
      try dsimp only at hSw
      go_simp
      try with_reducible rfl
    simp only [Act.put, List.setIfInBounds_toArray, List.set_cons_zero, List.set_cons_succ]
    refine takeC hlaw (i := 9) (v := ?_) rfl (by kernel_rfl) (by kernel_rfl) ?_ (by assumption) ?_
    rotate_left
    · intro w hSw
      try dsimp only at hSw
      go_simp
      try with_reducible rfl
    simp only [Act.put, List.setIfInBounds_toArray, List.set_cons_zero, List.set_cons_succ]
    refine takeC hlaw (i := 10) (v := ?_) rfl (by kernel_rfl) (by kernel_rfl) ?_ (by assumption) ?_
    rotate_left
    · intro w hSw
      try dsimp only at hSw
      go_simp
      try with_reducible rfl
    simp only [Act.put, List.setIfInBounds_toArray, List.set_cons_zero, List.set_cons_succ]
    refine takeC hlaw (i := 11) (v := ?_) rfl (by kernel_rfl) (by kernel_rfl) ?_ (by assumption) ?_
    rotate_left
    · intro w hSw
      try dsimp only at hSw
      go_simp
      try with_reducible rfl
    simp only [Act.put, List.setIfInBounds_toArray, List.set_cons_zero, List.set_cons_succ]
    refine takeC hlaw (i := 12) (v := ?_) rfl (by kernel_rfl) (by kernel_rfl) ?_ (by assumption) ?_
    rotate_left
    · intro w hSw
      try dsimp only at hSw
      go_simp
      try with_reducible rfl
    simp only [Act.put, List.setIfInBounds_toArray, List.set_cons_zero, List.set_cons_succ]
    refine takeC hlaw (i := 13) (v := ?_) rfl (by kernel_rfl) (by kernel_rfl) ?_ (by assumption) ?_
    rotate_left
    · intro w hSw
      try dsimp only at hSw
      go_simp
      try with_reducible rfl
    simp only [Act.put, List.setIfInBounds_toArray, List.set_cons_zero, List.set_cons_succ]
    refine takeC hlaw (i := 14) (v := ?_) rfl (by kernel_rfl) (by kernel_rfl) ?_ (by assumption) ?_
    rotate_left
    · intro w hSw
      try dsimp only at hSw
      go_simp
      try with_reducible rfl
    simp only [Act.put, List.setIfInBounds_toArray, List.set_cons_zero, List.set_cons_succ]
    refine takeC hlaw (i := 15) (v := ?_) rfl (by kernel_rfl) (by kernel_rfl) ?_ (by assumption) ?_
    rotate_left
    · intro w hSw
      try dsimp only at hSw
      go_simp
      try with_reducible rfl
    simp only [Act.put, List.setIfInBounds_toArray, List.set_cons_zero, List.set_cons_succ]
    refine takeC hlaw (i := 16) (v := ?_) rfl (by kernel_rfl) (by kernel_rfl) ?_ (by assumption) ?_
    rotate_left
    · intro w hSw
      try dsimp only at hSw
      go_simp
      try with_reducible rfl
    simp only [Act.put, List.setIfInBounds_toArray, List.set_cons_zero, List.set_cons_succ]
    refine takeC hlaw (i := 17) (v := ?_) rfl (by kernel_rfl) (by kernel_rfl) ?_ (by assumption) ?_
    rotate_left
    · intro w hSw
      try dsimp only at hSw
      go_simp
      try with_reducible rfl
    simp only [Act.put, List.setIfInBounds_toArray, List.set_cons_zero, List.set_cons_succ]
    refine takeC hlaw (i := 18) (v := ?_) rfl (by kernel_rfl) (by kernel_rfl) ?_ (by assumption) ?_
    rotate_left
    · intro w hSw
      try dsimp only at hSw
      go_simp
      try with_reducible rfl
    simp only [Act.put, List.setIfInBounds_toArray, List.set_cons_zero, List.set_cons_succ]
    refine takeC hlaw (i := 19) (v := ?_) rfl (by kernel_rfl) (by kernel_rfl) ?_ (by assumption) ?_
    rotate_left
    · intro w hSw
      try dsimp only at hSw
      go_simp
      try with_reducible rfl
    simp only [Act.put, List.setIfInBounds_toArray, List.set_cons_zero, List.set_cons_succ]
    refine takeC hlaw (i := 21) (v := ?_) rfl (by kernel_rfl) (by kernel_rfl) ?_ (by assumption) ?_
    rotate_left
    · intro w hSw
      try dsimp only at hSw
      go_simp
      try with_reducible rfl
    simp only [Act.put, List.setIfInBounds_toArray, List.set_cons_zero, List.set_cons_succ]
    refine takeC hlaw (i := 22) (v := ?_) rfl (by kernel_rfl) (by kernel_rfl) ?_ (by assumption) ?_
    rotate_left
    · intro w hSw
      try dsimp only at hSw
      go_simp
      try with_reducible rfl
    simp only [Act.put, List.setIfInBounds_toArray, List.set_cons_zero, List.set_cons_succ]
    refine takeC hlaw (i := 23) (v := ?_) rfl (by kernel_rfl) (by kernel_rfl) ?_ (by assumption) ?_
    rotate_left
    · intro w hSw
      try dsimp only at hSw
      go_simp
      try with_reducible rfl
    simp only [Act.put, List.setIfInBounds_toArray, List.set_cons_zero, List.set_cons_succ]
    refine takeC hlaw (i := 24) (v := ?_) rfl (by kernel_rfl) (by kernel_rfl) ?_ (by assumption) ?_
    rotate_left
    · intro w hSw
      try dsimp only at hSw
      go_simp
      try with_reducible rfl
    simp only [Act.put, List.setIfInBounds_toArray, List.set_cons_zero, List.set_cons_succ]
    refine takeC hlaw (i := 26) (v := ?_) rfl (by kernel_rfl) (by kernel_rfl) ?_ (by assumption) ?_
    rotate_left
    · intro w hSw
      try dsimp only at hSw
      go_simp
      try with_reducible rfl
    simp only [Act.put, List.setIfInBounds_toArray, List.set_cons_zero, List.set_cons_succ]
    refine takeC hlaw (i := 27) (v := ?_) rfl (by kernel_rfl) (by kernel_rfl) ?_ (by assumption) ?_
    rotate_left
    · intro w hSw
      try dsimp only at hSw
      go_simp
      try with_reducible rfl
    simp only [Act.put, List.setIfInBounds_toArray, List.set_cons_zero, List.set_cons_succ]
    refine takeC hlaw (i := 28) (v := ?_) rfl (by kernel_rfl) (by kernel_rfl) ?_ (by assumption) ?_
    rotate_left
    · intro w hSw
      try dsimp only at hSw
      go_simp
      try with_reducible rfl
    simp only [Act.put, List.setIfInBounds_toArray, List.set_cons_zero, List.set_cons_succ]
    refine takeC hlaw (i := 29) (v := ?_) rfl (by kernel_rfl) (by kernel_rfl) ?_ (by assumption) ?_
    rotate_left
    · intro w hSw
      try dsimp only at hSw
      go_simp
      try with_reducible rfl
    simp only [Act.put, List.setIfInBounds_toArray, List.set_cons_zero, List.set_cons_succ]
    refine takeC hlaw (i := 31) (v := ?_) rfl (by kernel_rfl) (by kernel_rfl) ?_ (by assumption) ?_
    rotate_left
    · intro w hSw
      try dsimp only at hSw
      go_simp
      try with_reducible rfl
    simp only [Act.put, List.setIfInBounds_toArray, List.set_cons_zero, List.set_cons_succ]
    refine takeC hlaw (i := 32) (v := ?_) rfl (by kernel_rfl) (by kernel_rfl) ?_ (by assumption) ?_
    rotate_left
    · intro w hSw
      try dsimp only at hSw
      go_simp
      try with_reducible rfl
    simp only [Act.put, List.setIfInBounds_toArray, List.set_cons_zero, List.set_cons_succ]
    refine takeC hlaw (i := 33) (v := ?_) rfl (by kernel_rfl) (by kernel_rfl) ?_ (by assumption) ?_
    rotate_left
    · intro w hSw
      try dsimp only at hSw
      go_simp
      try with_reducible rfl
    simp only [Act.put, List.setIfInBounds_toArray, List.set_cons_zero, List.set_cons_succ]
    refine takeC hlaw (i := 34) (v := ?_) rfl (by kernel_rfl) (by kernel_rfl) ?_ (by assumption) ?_
    rotate_left
    · intro w hSw
      try dsimp only at hSw
      go_simp
      try with_reducible rfl
    simp only [Act.put, List.setIfInBounds_toArray, List.set_cons_zero, List.set_cons_succ]
    refine takeC hlaw (i := 36) (v := ?_) rfl (by kernel_rfl) (by kernel_rfl) ?_ (by assumption) ?_
    rotate_left
    · intro w hSw
      try dsimp only at hSw
      go_simp
      try with_reducible rfl
    simp only [Act.put, List.setIfInBounds_toArray, List.set_cons_zero, List.set_cons_succ]
    refine takeC hlaw (i := 37) (v := ?_) rfl (by kernel_rfl) (by kernel_rfl) ?_ (by assumption) ?_
    rotate_left
    · intro w hSw
      try dsimp only at hSw
      go_simp
      try with_reducible rfl
    simp only [Act.put, List.setIfInBounds_toArray, List.set_cons_zero, List.set_cons_succ]
    refine takeC hlaw (i := 38) (v := ?_) rfl (by kernel_rfl) (by kernel_rfl) ?_ (by assumption) ?_
    rotate_left
    · intro w hSw
      try dsimp only at hSw
      go_simp
      try with_reducible rfl
    simp only [Act.put, List.setIfInBounds_toArray, List.set_cons_zero, List.set_cons_succ]
    refine takeC hlaw (i := 39) (v := ?_) rfl (by kernel_rfl) (by kernel_rfl) ?_ (by assumption) ?_
    rotate_left
    · intro w hSw
      try dsimp only at hSw
      go_simp
      try with_reducible rfl
    simp only [Act.put, List.setIfInBounds_toArray, List.set_cons_zero, List.set_cons_succ]
    refine takeC hlaw (i := 41) (v := ?_) rfl (by kernel_rfl) (by kernel_rfl) ?_ (by assumption) ?_
    rotate_left
    · intro w hSw
      try dsimp only at hSw
      go_simp
      try with_reducible rfl
    simp only [Act.put, List.setIfInBounds_toArray, List.set_cons_zero, List.set_cons_succ]
    refine takeC hlaw (i := 42) (v := ?_) rfl (by kernel_rfl) (by kernel_rfl) ?_ (by assumption) ?_
    rotate_left
    · intro w hSw
      try dsimp only at hSw
      go_simp
      try with_reducible rfl
    simp only [Act.put, List.setIfInBounds_toArray, List.set_cons_zero, List.set_cons_succ]
    refine takeC hlaw (i := 43) (v := ?_) rfl (by kernel_rfl) (by kernel_rfl) ?_ (by assumption) ?_
    rotate_left
    · intro w hSw
      try dsimp only at hSw
      go_simp
      try with_reducible rfl
    simp only [Act.put, List.setIfInBounds_toArray, List.set_cons_zero, List.set_cons_succ]
    refine takeC hlaw (i := 44) (v := ?_) rfl (by kernel_rfl) (by kernel_rfl) ?_ (by assumption) ?_
    rotate_left
    · intro w hSw
      try dsimp only at hSw
      go_simp
      try with_reducible rfl
    simp only [Act.put, List.setIfInBounds_toArray, List.set_cons_zero, List.set_cons_succ]
    refine takeC hlaw (i := 46) (v := ?_) rfl (by kernel_rfl) (by kernel_rfl) ?_ (by assumption) ?_
    rotate_left
    · intro w hSw
      try dsimp only at hSw
      go_simp
      try with_reducible rfl
    simp only [Act.put, List.setIfInBounds_toArray, List.set_cons_zero, List.set_cons_succ]
    refine takeC hlaw (i := 47) (v := ?_) rfl (by kernel_rfl) (by kernel_rfl) ?_ (by assumption) ?_
    rotate_left
    · intro w hSw
      try dsimp only at hSw
      go_simp
      try with_reducible rfl
    simp only [Act.put, List.setIfInBounds_toArray, List.set_cons_zero, List.set_cons_succ]
    refine takeC hlaw (i := 48) (v := ?_) rfl (by kernel_rfl) (by kernel_rfl) ?_ (by assumption) ?_
    rotate_left
    · intro w hSw
      try dsimp only at hSw
      go_simp
      try with_reducible rfl
    simp only [Act.put, List.setIfInBounds_toArray, List.set_cons_zero, List.set_cons_succ]
    refine takeC hlaw (i := 49) (v := ?_) rfl (by kernel_rfl) (by kernel_rfl) ?_ (by assumption) ?_
    rotate_left
    · intro w hSw
      try dsimp only at hSw
      go_simp
      try with_reducible rfl
    simp only [Act.put, List.setIfInBounds_toArray, List.set_cons_zero, List.set_cons_succ]
    refine takeC hlaw (i := 50) (v := ?_) rfl (by kernel_rfl) (by kernel_rfl) ?_ (by assumption) ?_
    rotate_left
    · intro w hSw
      try dsimp only at hSw
      go_simp
      try with_reducible rfl
    simp only [Act.put, List.setIfInBounds_toArray, List.set_cons_zero, List.set_cons_succ]
    refine takeC hlaw (i := 51) (v := ?_) rfl (by kernel_rfl) (by kernel_rfl) ?_ (by assumption) ?_
    rotate_left
    · intro w hSw
      try dsimp only at hSw
      go_simp
      try with_reducible rfl
    simp only [Act.put, List.setIfInBounds_toArray, List.set_cons_zero, List.set_cons_succ]
    refine takeC hlaw (i := 52) (v := ?_) rfl (by kernel_rfl) (by kernel_rfl) ?_ (by assumption) ?_
    rotate_left
    · intro w hSw
      try dsimp only at hSw
      go_simp
      try with_reducible rfl
    simp only [Act.put, List.setIfInBounds_toArray, List.set_cons_zero, List.set_cons_succ]
    refine takeC hlaw (i := 53) (v := ?_) rfl (by kernel_rfl) (by kernel_rfl) ?_ (by assumption) ?_
    rotate_left
    · intro w hSw
      try dsimp only at hSw
      go_simp
      try with_reducible rfl
    simp only [Act.put, List.setIfInBounds_toArray, List.set_cons_zero, List.set_cons_succ]
    refine takeC hlaw (i := 54) (v := ?_) rfl (by kernel_rfl) (by kernel_rfl) ?_ (by assumption) ?_
    rotate_left
    · intro w hSw
      try dsimp only at hSw
      go_simp
      try with_reducible rfl
    simp only [Act.put, List.setIfInBounds_toArray, List.set_cons_zero, List.set_cons_succ]
    refine takeC hlaw (i := 55) (v := ?_) rfl (by kernel_rfl) (by kernel_rfl) ?_ (by assumption) ?_
    rotate_left
    · intro w hSw
      try dsimp only at hSw
      go_simp
      try with_reducible rfl
    simp only [Act.put, List.setIfInBounds_toArray, List.set_cons_zero, List.set_cons_succ]
    refine takeC hlaw (i := 56) (v := ?_) rfl (by kernel_rfl) (by kernel_rfl) ?_ (by assumption) ?_
    rotate_left
    · intro w hSw
      try dsimp only at hSw
      go_simp
      try with_reducible rfl
    simp only [Act.put, List.setIfInBounds_toArray, List.set_cons_zero, List.set_cons_succ]
    refine takeC hlaw (i := 57) (v := ?_) rfl (by kernel_rfl) (by kernel_rfl) ?_ (by assumption) ?_
    rotate_left
    · intro w hSw
      try dsimp only at hSw
      go_simp
      try with_reducible rfl
    simp only [Act.put, List.setIfInBounds_toArray, List.set_cons_zero, List.set_cons_succ]
    refine takeC hlaw (i := 58) (v := ?_) rfl (by kernel_rfl) (by kernel_rfl) ?_ (by assumption) ?_
    rotate_left
    · intro w hSw
      try dsimp only at hSw
      go_simp
      try with_reducible rfl
    simp only [Act.put, List.setIfInBounds_toArray, List.set_cons_zero, List.set_cons_succ]
    refine takeC hlaw (i := 59) (v := ?_) rfl (by kernel_rfl) (by kernel_rfl) ?_ (by assumption) ?_
    rotate_left
    · intro w hSw
      try dsimp only at hSw
      go_simp
      try with_reducible rfl
    simp only [Act.put, List.setIfInBounds_toArray, List.set_cons_zero, List.set_cons_succ]
    refine takeC hlaw (i := 60) (v := ?_) rfl (by kernel_rfl) (by kernel_rfl) ?_ (by assumption) ?_
    rotate_left
    · intro w hSw
      try dsimp only at hSw
      go_simp
      try with_reducible rfl
    simp only [Act.put, List.setIfInBounds_toArray, List.set_cons_zero, List.set_cons_succ]
    refine takeC hlaw (i := 61) (v := ?_) rfl (by kernel_rfl) (by kernel_rfl) ?_ (by assumption) ?_
    rotate_left
    · intro w hSw
      try dsimp only at hSw
      go_simp
      try with_reducible rfl
    simp only [Act.put, List.setIfInBounds_toArray, List.set_cons_zero, List.set_cons_succ]
    refine takeC hlaw (i := 62) (v := ?_) rfl (by kernel_rfl) (by kernel_rfl) ?_ (by assumption) ?_
    rotate_left
    · intro w hSw
      try dsimp only at hSw
      go_simp
      try with_reducible rfl
    simp only [Act.put, List.setIfInBounds_toArray, List.set_cons_zero, List.set_cons_succ]
    refine takeC hlaw (i := 63) (v := ?_) rfl (by kernel_rfl) (by kernel_rfl) ?_ (by assumption) ?_
    rotate_left
    · intro w hSw
      try dsimp only at hSw
      go_simp
      try with_reducible rfl
    simp only [Act.put, List.setIfInBounds_toArray, List.set_cons_zero, List.set_cons_succ]
    refine takeC hlaw (i := 64) (v := ?_) rfl (by kernel_rfl) (by kernel_rfl) ?_ (by assumption) ?_
    rotate_left
    · intro w hSw
      try dsimp only at hSw
      go_simp
      try with_reducible rfl
    simp only [Act.put, List.setIfInBounds_toArray, List.set_cons_zero, List.set_cons_succ]
    refine takeC hlaw (i := 65) (v := ?_) rfl (by kernel_rfl) (by kernel_rfl) ?_ (by assumption) ?_
    rotate_left
    · intro w hSw
      try dsimp only at hSw
      go_simp
      try with_reducible rfl
    simp only [Act.put, List.setIfInBounds_toArray, List.set_cons_zero, List.set_cons_succ]
    refine takeC hlaw (i := 66) (v := ?_) rfl (by kernel_rfl) (by kernel_rfl) ?_ (by assumption) ?_
    rotate_left
    · intro w hSw
      try dsimp only at hSw
      go_simp
      try with_reducible rfl
    simp only [Act.put, List.setIfInBounds_toArray, List.set_cons_zero, List.set_cons_succ]
    refine takeC hlaw (i := 67) (v := ?_) rfl (by kernel_rfl) (by kernel_rfl) ?_ (by assumption) ?_
    rotate_left
    · intro w hSw
      try dsimp only at hSw
      go_simp
      try with_reducible rfl
    simp only [Act.put, List.setIfInBounds_toArray, List.set_cons_zero, List.set_cons_succ]
    refine takeC hlaw (i := 68) (v := ?_) rfl (by kernel_rfl) (by kernel_rfl) ?_ (by assumption) ?_
    rotate_left
    · intro w hSw
      try dsimp only at hSw
      go_simp
      try with_reducible rfl
    simp only [Act.put, List.setIfInBounds_toArray, List.set_cons_zero, List.set_cons_succ]
    refine takeC hlaw (i := 69) (v := ?_) rfl (by kernel_rfl) (by kernel_rfl) ?_ (by assumption) ?_
    rotate_left
    · intro w hSw
      try dsimp only at hSw
      go_simp
      try with_reducible rfl
    simp only [Act.put, List.setIfInBounds_toArray, List.set_cons_zero, List.set_cons_succ]
    refine takeC hlaw (i := 70) (v := ?_) rfl (by kernel_rfl) (by kernel_rfl) ?_ (by assumption) ?_
    rotate_left
    · intro w hSw
      try dsimp only at hSw
      go_simp
      try with_reducible rfl
    simp only [Act.put, List.setIfInBounds_toArray, List.set_cons_zero, List.set_cons_succ]
    refine takeC hlaw (i := 71) (v := ?_) rfl (by kernel_rfl) (by kernel_rfl) ?_ (by assumption) ?_
    rotate_left
    · intro w hSw
      try dsimp only at hSw
      go_simp
      try with_reducible rfl
    simp only [Act.put, List.setIfInBounds_toArray, List.set_cons_zero, List.set_cons_succ]
    refine takeC hlaw (i := 72) (v := ?_) rfl (by kernel_rfl) (by kernel_rfl) ?_ (by assumption) ?_
    rotate_left
    · intro w hSw
      try dsimp only at hSw
      go_simp
      try with_reducible rfl
    simp only [Act.put, List.setIfInBounds_toArray, List.set_cons_zero, List.set_cons_succ]
    refine takeC hlaw (i := 73) (v := ?_) rfl (by kernel_rfl) (by kernel_rfl) ?_ (by assumption) ?_
    rotate_left
    · intro w hSw
      try dsimp only at hSw
      go_simp
      try with_reducible rfl
    simp only [Act.put, List.setIfInBounds_toArray, List.set_cons_zero, List.set_cons_succ]
    refine takeC hlaw (i := 74) (v := ?_) rfl (by kernel_rfl) (by kernel_rfl) ?_ (by assumption) ?_
    rotate_left
    · intro w hSw
      try dsimp only at hSw
      go_simp
      try with_reducible rfl
    simp only [Act.put, List.setIfInBounds_toArray, List.set_cons_zero, List.set_cons_succ]
    refine takeC hlaw (i := 75) (v := ?_) rfl (by kernel_rfl) (by kernel_rfl) ?_ (by assumption) ?_
    rotate_left
    · intro w hSw
      try dsimp only at hSw
      go_simp
      try with_reducible rfl
    simp only [Act.put, List.setIfInBounds_toArray, List.set_cons_zero, List.set_cons_succ]
    refine bitC (i := 20) (by kernel_rfl) rfl n3 h3 (by assumption) ?_ ?_
    · go_simp
    simp only [Act.put, List.setIfInBounds_toArray, List.set_cons_zero, List.set_cons_succ]
    refine bitC (i := 25) (by kernel_rfl) rfl n4 h4 (by assumption) ?_ ?_
    · go_simp
    simp only [Act.put, List.setIfInBounds_toArray, List.set_cons_zero, List.set_cons_succ]
    refine bitC (i := 30) (by kernel_rfl) rfl n5 h5 (by assumption) ?_ ?_
    · go_simp
    simp only [Act.put, List.setIfInBounds_toArray, List.set_cons_zero, List.set_cons_succ]
    refine bitC (i := 35) (by kernel_rfl) rfl n6 h6 (by assumption) ?_ ?_
    · go_simp
    simp only [Act.put, List.setIfInBounds_toArray, List.set_cons_zero, List.set_cons_succ]
    refine bitC (i := 40) (by kernel_rfl) rfl n7 h7 (by assumption) ?_ ?_
    · go_simp
    simp only [Act.put, List.setIfInBounds_toArray, List.set_cons_zero, List.set_cons_succ]
    refine bitC (i := 45) (by kernel_rfl) rfl n8 h8 (by assumption) ?_ ?_
    · go_simp
    simp only [Act.put, List.setIfInBounds_toArray, List.set_cons_zero, List.set_cons_succ]
    refine readyC (i := 76) (by kernel_rfl) rfl (fun K hK => ?_)
    go_simp
    refine hK.out _ _ ?_ (fun hHeld2 => ?_)
    · try dsimp only
      first | assumption | exact ⟨(far_sa hne hgs).trans (HX2.out.cell 2), (far_sa hne hgs).trans (HX2.out.cell 3), (far_sa hne hgs).trans (HX2.out.cell 4), (far_sa hne hgs).trans (HX2.out.cell 5), (far_sa hne hgs).trans (HX2.out.cell 6), (far_sa hne hgs).trans (HX2.out.cell 7), (far_sa hne hgs).trans (HX2.out.cell 8), (far_sa hne hgs).trans (HX2.out.cell 9), (far_sa hne hgs).trans (HX2.out.cell 10), (far_sa hne hgs).trans (HX2.out.cell 11), (far_sa hne hgs).trans (HX2.out.cell 12), (far_sa hne hgs).trans (HX2.out.cell 13), (far_sa hne hgs).trans (HX2.out.cell 14), (far_sa hne hgs).trans (HX2.out.cell 15), (far_sa hne hgs).trans (HX2.out.cell 16), (far_sa hne hgs).trans (HX2.out.cell 17)⟩ | go_keep
    clear hK K hHeld
    have hHeld := hHeld2
    clear hHeld2
    simp only [Act.put, List.setIfInBounds_toArray, List.set_cons_zero, List.set_cons_succ]
    refine takeC hlaw (i := 77) (v := ?_) rfl (by kernel_rfl) (by kernel_rfl) ?_ (by assumption) ?_
    rotate_left
    · intro w hSw
      try dsimp only at hSw
      go_simp
      try with_reducible rfl
    simp only [Act.put, List.setIfInBounds_toArray, List.set_cons_zero, List.set_cons_succ]
    refine takeC hlaw (i := 78) (v := ?_) rfl (by kernel_rfl) (by kernel_rfl) ?_ (by assumption) ?_
    rotate_left
    · intro w hSw
      try dsimp only at hSw
      go_simp
      try with_reducible rfl
    simp only [Act.put, List.setIfInBounds_toArray, List.set_cons_zero, List.set_cons_succ]
    refine readyC (i := 79) (by kernel_rfl) rfl (fun K hK => ?_)
    go_simp
    refine hK.out _ _ ?_ (fun hHeld2 => ?_)
    · try dsimp only
      first | assumption | exact ⟨(far_sa hne hgs).trans (HX2.out.cell 2), (far_sa hne hgs).trans (HX2.out.cell 3), (far_sa hne hgs).trans (HX2.out.cell 4), (far_sa hne hgs).trans (HX2.out.cell 5), (far_sa hne hgs).trans (HX2.out.cell 6), (far_sa hne hgs).trans (HX2.out.cell 7), (far_sa hne hgs).trans (HX2.out.cell 8), (far_sa hne hgs).trans (HX2.out.cell 9), (far_sa hne hgs).trans (HX2.out.cell 10), (far_sa hne hgs).trans (HX2.out.cell 11), (far_sa hne hgs).trans (HX2.out.cell 12), (far_sa hne hgs).trans (HX2.out.cell 13), (far_sa hne hgs).trans (HX2.out.cell 14), (far_sa hne hgs).trans (HX2.out.cell 15), (far_sa hne hgs).trans (HX2.out.cell 16), (far_sa hne hgs).trans (HX2.out.cell 17)⟩ | go_keep
    clear hK K hHeld
    have hHeld := hHeld2
    clear hHeld2
    simp only [Act.put, List.setIfInBounds_toArray, List.set_cons_zero, List.set_cons_succ]
    refine wpAnyH_done (by kernel_rfl) ?_ _
    refine NoPanic.normal ?_
    have hfr := HFR.out
    have hpre := HPRE.out
    have hmid := HMID.out
    have hpost := HPOST.out
    have hlen := HLEN.out
    have hset : ∀ (X : List Value) (t : Nat) (v : Value), 671 ≤ t → (pre ++ X).set t v = pre ++ X.set (t - 671) v := fun X t v ht => by rw [List.set_append_right _ _ (by omega), hlen]
    rw [hfr, hmid]
    simp only [hset, Nat.reduceLeDiff, Nat.reduceSub, List.cons_append, List.nil_append, List.set_cons_zero, List.set_cons_succ]
    rw [hpre, hpost]
    simp only [List.take_succ_cons, List.take_zero, List.drop_succ_cons, List.drop_zero, List.cons_append, List.nil_append]
    clear hset hfr hmid hpre hpost hlen HFR HPRE HMID HPOST HLEN hlng hset0 hget fr6 frx
    go_wp2_with fail
    go_meet
    case rel =>
      refine ⟨rfl, ?_⟩
      simp (disch := omega) only [IntWalk.u64_in]
  case rest =>
  obtain ⟨rfl, rfl⟩ := hcut
  obtain ⟨ns, hns⟩ : ∃ ns : List Value, ns = [.int .u64 n0, .int .u64 n1, .int .u64 n2, .int .u64 n3, .int .u64 n4, .int .u64 n5, .int .u64 n6, .int .u64 n7, .int .u64 n8, .int .u64 n9, .int .u64 n10, .int .u64 n11, .int .u64 n12, .int .u64 n13, .int .u64 n14] := ⟨_, rfl⟩
  rw [← hns]
  obtain ⟨w3, hW3⟩ : ∃ w3, w3 = ((w2.setCell ⟨l, 0, none⟩ (.slice (some ⟨w2.heap.size, 0, none⟩) 15 15)).alloc (.cells ns.toArray 46)).drew := ⟨_, rfl⟩
  rw [← hW3]
  have hl3 : Bk w3 l 27 [.slice (some ⟨w2.heap.size, 0, none⟩) 15 15, .slice none 0 0, .slice none 0 0, .slice A1 pay.length c1] := by rw [hW3]; exact ((HL2.out.set_ 0 _).alloc _).drew
  have hr3 : Bk w3 w.heap.size 27 [.slice none 0 0, .slice none 0 0, .slice none 0 0, .slice none 0 0] := by rw [hW3]; exact ((HR2.out.far (p := ⟨l, 0, none⟩) hne2 _).alloc _).drew
  have hb3 : Below w.heap.size w w3 := by rw [hW3]; exact ((HB2.out.setCell (p := ⟨l, 0, none⟩) (by simp; omega) _).alloc (by simp; omega) _).drew
  have hs3 : Sl w3 w3.heap.size A1 pay.length (bcs pay) := by
    rw [hW3]
    exact (HS2.out.keep (fun g hg => (Below.heap_alloc _ _ g (by simp; omega)).trans (Below.heap_setCell _ _ _ _ (by simp; omega)))).more (by simp; omega)
  have hN3 : Sl w3 w3.heap.size (some ⟨w2.heap.size, 0, none⟩) 15 (ncs [n0, n1, n2, n3, n4, n5, n6, n7, n8, n9, n10, n11, n12, n13, n14]) := by
    have := Sl.new (w := w2.setCell ⟨l, 0, none⟩ (.slice (some ⟨w2.heap.size, 0, none⟩) 15 15)) (t := 46) (cs := ns) (n := 15) (by rw [hns]; rfl)
    rw [hW3]
    refine Sl.cast ((this.keep (fun _ _ => rfl)).more (by simp)) ?_ |>.castA (by simp)
    rw [hns]; simp [ncs]
  have hx3 : Bk w3 gx 134 [Cv, .slice Ap pay.length cp, .int .u8 n0, .int .u8 n1, .int .u8 n2, .bool (bt n3), .bool (bt n4), .bool (bt n5), .bool (bt n6), .bool (bt n7), .bool (bt n8), .int .u8 n9, .int .u32 n10, .int .u32 n11, .int .u32 n12, .int .u32 n13, .int .u32 n14, .pointer none] := by rw [hW3]; exact ((HX2.out.far (p := ⟨l, 0, none⟩) hne _).alloc _).drew
  have cx := hx3.cell 17
  simp only [List.getElem?_cons_zero, List.getElem?_cons_succ] at cx
  clear hx3
  have l0 := hl3.cell 0
  have l1 := hl3.cell 1
  have l2 := hl3.cell 2
  have l3 := hl3.cell 3
  have k0 := hr3.cell 0
  have k1 := hr3.cell 1
  have k2 := hr3.cell 2
  have k3 := hr3.cell 3
  have f0 := hr3.frozen 0
  have f1 := hr3.frozen 1
  have f2 := hr3.frozen 2
  have f3 := hr3.frozen 3
  simp only [List.getElem?_cons_zero, List.getElem?_cons_succ] at l0 l1 l2 l3 k0 k1 k2 k3
  have HR3 := Lib.hid hr3
  have HB3 := Lib.hid hb3
  have HS3 := Lib.hid hs3
  have HN3 := Lib.hid hN3
  clear hns hW3 hl3 hr3 hb3 hs3 hN3
  go_wp2_with fail
  have hLL := LyrF.plain (B0 := 0) (B1 := w.heap.size + 1) (cN := 15) (cB := c1) HN3.out HS3.out (Fr2.new (by omega)) (Fr2.of_fr HF1.out (by simp))
  have hfin := read_end (w := w) hLL HB3.out (Nat.zero_le _) (Nat.lt_succ_self _) (Nat.le_refl _)
  obtain ⟨z0, z1, z2, z3⟩ := set4_cells HR3.out (.slice (some ⟨w2.heap.size, 0, none⟩) 15 15) (.slice none 0 0) (.slice none 0 0) (.slice A1 pay.length c1)
  exact bodyPost_ret (v := .tuple #[.agg #[.slice (some ⟨w2.heap.size, 0, none⟩) 15 15, .slice none 0 0, .slice none 0 0, .slice A1 pay.length c1], .bool true]) (by simp [results, Tryz.results59, go_sem, z0, z1, z2, z3]) rfl (hR.out _ _ ⟨_, rfl, hfin.1, hfin.2⟩)
end Go.Proofs.YtphmklgbbpiafaaGreat
