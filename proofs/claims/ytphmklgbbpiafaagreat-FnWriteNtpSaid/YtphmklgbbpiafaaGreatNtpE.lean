/-
  Ntp: what told makes of it. No condition.
-/
import Derived.Deep.Cut
import Derived.Deep.RegionHeld3
import Derived.Test.YtphmklgbbpiafaaGreatMplsE
import Derived.Test.YtphmklgbbpiafaaGreatFldA
import Derived.Test.YtphmklgbbpiafaaGreatNtpA
namespace Go.Proofs.YtphmklgbbpiafaaGreat
open Go Go.RowKit
set_option linter.unusedVariables false
attribute [local go_sem] sd_drewN ad_drewN
set_option maxRecDepth 1000000 in
set_option maxHeartbeats 10000000 in
theorem told_ntp (n0 n1 n2 n3 n4 n5 n6 n7 n8 n9 n10 n11 n12 : Nat) (h0 : n0 < 4) (h1 : n1 < 8) (h2 : n2 < 8) (h3 : n3 < 256) (h4 : n4 < 256) (h5 : n5 < 256) (h6 : n6 < 4294967296) (h7 : n7 < 4294967296) (h8 : n8 < 4294967296) (h9 : n9 < 18446744073709551616) (h10 : n10 < 18446744073709551616) (h11 : n11 < 18446744073709551616) (h12 : n12 < 18446744073709551616) (d0 : List UInt8) (hd : d0.length ≤ 1000) (pay : List UInt8) (hp : pay.length ≤ 1000) : Tolds 141 152 pay (Fld.dat (fun Q cQ => [.int .u8 n0, .int .u8 n1, .int .u8 n2, .int .u8 n3, .int .i8 (s8 n4), .int .i8 (s8 n5), .int .u32 n6, .int .u32 n7, .int .u32 n8, .int .u64 n9, .int .u64 n10, .int .u64 n11, .int .u64 n12, .slice Q d0.length cQ]) d0) [n0, n1, n2, n3, n4, n5, n6, n7, n8, n9, n10, n11, n12] [d0] := by
  intro gx Cv Ap cp fs w hx hs hF
  refine calls_hid fun R hR => ?_
  obtain ⟨Q, cQ, rfl, hQ⟩ := hF
  have hlt := hx.lt
  have HX := Lib.hid hx
  have HS := Lib.hid hs
  have HQ := Lib.hid hQ
  clear hx hs hQ
  have u4 := u8_s8 n4 h4
  have u5 := u8_s8 n5 h5
  have ta73 : ∀ W, (Instr.typeAssert (.iface 141 (.pointer (some ⟨gx, 0, none⟩))) 20 73 true).run Tryz.prog W = .ok (.tuple #[.pointer none, .bool false]) W := fun _ => by kernel_rfl
  have ta81 : ∀ W, (Instr.typeAssert (.iface 141 (.pointer (some ⟨gx, 0, none⟩))) 20 81 true).run Tryz.prog W = .ok (.tuple #[.pointer none, .bool false]) W := fun _ => by kernel_rfl
  have ta85 : ∀ W, (Instr.typeAssert (.iface 141 (.pointer (some ⟨gx, 0, none⟩))) 20 85 true).run Tryz.prog W = .ok (.tuple #[.pointer none, .bool false]) W := fun _ => by kernel_rfl
  have ta88 : ∀ W, (Instr.typeAssert (.iface 141 (.pointer (some ⟨gx, 0, none⟩))) 20 88 true).run Tryz.prog W = .ok (.tuple #[.pointer none, .bool false]) W := fun _ => by kernel_rfl
  have ta92 : ∀ W, (Instr.typeAssert (.iface 141 (.pointer (some ⟨gx, 0, none⟩))) 20 92 true).run Tryz.prog W = .ok (.tuple #[.pointer none, .bool false]) W := fun _ => by kernel_rfl
  have ta185 : ∀ W, (Instr.typeAssert (.iface 141 (.pointer (some ⟨gx, 0, none⟩))) 20 185 true).run Tryz.prog W = .ok (.tuple #[.pointer none, .bool false]) W := fun _ => by kernel_rfl
  have ta190 : ∀ W, (Instr.typeAssert (.iface 141 (.pointer (some ⟨gx, 0, none⟩))) 20 190 true).run Tryz.prog W = .ok (.tuple #[.pointer none, .bool false]) W := fun _ => by kernel_rfl
  have ta96 : ∀ W, (Instr.typeAssert (.iface 141 (.pointer (some ⟨gx, 0, none⟩))) 20 96 true).run Tryz.prog W = .ok (.tuple #[.pointer none, .bool false]) W := fun _ => by kernel_rfl
  have ta100 : ∀ W, (Instr.typeAssert (.iface 141 (.pointer (some ⟨gx, 0, none⟩))) 20 100 true).run Tryz.prog W = .ok (.tuple #[.pointer none, .bool false]) W := fun _ => by kernel_rfl
  have ta106 : ∀ W, (Instr.typeAssert (.iface 141 (.pointer (some ⟨gx, 0, none⟩))) 20 106 true).run Tryz.prog W = .ok (.tuple #[.pointer none, .bool false]) W := fun _ => by kernel_rfl
  have ta111 : ∀ W, (Instr.typeAssert (.iface 141 (.pointer (some ⟨gx, 0, none⟩))) 20 111 true).run Tryz.prog W = .ok (.tuple #[.pointer none, .bool false]) W := fun _ => by kernel_rfl
  have ta191 : ∀ W, (Instr.typeAssert (.iface 141 (.pointer (some ⟨gx, 0, none⟩))) 20 191 true).run Tryz.prog W = .ok (.tuple #[.pointer none, .bool false]) W := fun _ => by kernel_rfl
  have ta115 : ∀ W, (Instr.typeAssert (.iface 141 (.pointer (some ⟨gx, 0, none⟩))) 20 115 true).run Tryz.prog W = .ok (.tuple #[.pointer none, .bool false]) W := fun _ => by kernel_rfl
  have ta198 : ∀ W, (Instr.typeAssert (.iface 141 (.pointer (some ⟨gx, 0, none⟩))) 20 198 true).run Tryz.prog W = .ok (.tuple #[.pointer none, .bool false]) W := fun _ => by kernel_rfl
  have ta122 : ∀ W, (Instr.typeAssert (.iface 141 (.pointer (some ⟨gx, 0, none⟩))) 20 122 true).run Tryz.prog W = .ok (.tuple #[.pointer none, .bool false]) W := fun _ => by kernel_rfl
  have ta201 : ∀ W, (Instr.typeAssert (.iface 141 (.pointer (some ⟨gx, 0, none⟩))) 20 201 true).run Tryz.prog W = .ok (.tuple #[.pointer none, .bool false]) W := fun _ => by kernel_rfl
  have ta125 : ∀ W, (Instr.typeAssert (.iface 141 (.pointer (some ⟨gx, 0, none⟩))) 20 125 true).run Tryz.prog W = .ok (.tuple #[.pointer none, .bool false]) W := fun _ => by kernel_rfl
  have ta141 : ∀ W, (Instr.typeAssert (.iface 141 (.pointer (some ⟨gx, 0, none⟩))) 20 141 true).run Tryz.prog W = .ok (.tuple #[.pointer (some ⟨gx, 0, none⟩), .bool true]) W := fun _ => by kernel_rfl
  go_enter Tryz.func59, Tryz.ntmps59
  go_wp2_with fail
  refine (clone_new Ap pay.length cp pay _ ((HS.out.below ((Below.refl _ _).alloc (Nat.le_refl _) _)).more (by simp)) (by omega)).mono ?_
  rintro e w1 ⟨A1, c1, rfl, hf1, hb1, hs1⟩
  have hz := hb1.size
  simp only [World.size_alloc] at hz
  have hx1 := (HX.out.alloc _).below hb1 (by simp; omega)
  have hres := (Bk.new w 27 [.slice none 0 0, .slice none 0 0, .slice none 0 0, .slice none 0 0]).below hb1 (by simp)
  have HX1 := Lib.hid hx1
  have HRES := Lib.hid hres
  have HB1 := Lib.hid hb1
  have HF1 := Lib.hid hf1
  have HS1 := Lib.hid hs1
  clear hb1 hf1 hs1 hx1 hres
  go_wp2_with fail
  clear ta73 ta81 ta85 ta88 ta92 ta185 ta190 ta96 ta100 ta106 ta111 ta191 ta115 ta198 ta122 ta201 ta125 ta141
  obtain ⟨w2, hW⟩ : ∃ w2, w2 = w1.alloc (.cells #[.slice none 0 0, .slice none 0 0, .slice none 0 0, .slice A1 pay.length c1] 27) := ⟨_, rfl⟩
  obtain ⟨l, hl⟩ : ∃ l, l = w1.heap.size := ⟨_, rfl⟩
  rw [← hW, ← hl]
  have hx2 : Bk w2 gx 152 [Cv, .slice Ap pay.length cp, .int .u8 n0, .int .u8 n1, .int .u8 n2, .int .u8 n3, .int .i8 (s8 n4), .int .i8 (s8 n5), .int .u32 n6, .int .u32 n7, .int .u32 n8, .int .u64 n9, .int .u64 n10, .int .u64 n11, .int .u64 n12, .slice Q d0.length cQ] := by rw [hW]; exact HX1.out.alloc _
  have hl2 : Bk w2 l 27 [.slice none 0 0, .slice none 0 0, .slice none 0 0, .slice A1 pay.length c1] := by rw [hW, hl]; exact Bk.new _ _ _
  have hr2 : Bk w2 w.heap.size 27 [.slice none 0 0, .slice none 0 0, .slice none 0 0, .slice none 0 0] := by rw [hW]; exact HRES.out.alloc _
  have hb2 : Below w.heap.size w w2 := by rw [hW]; exact (((Below.refl _ w).alloc (Nat.le_refl _) _).trans (HB1.out.mono (by simp))).alloc (by omega) _
  have hs2 : Sl w2 l A1 pay.length (bcs pay) := by rw [hW, hl]; exact HS1.out.below ((Below.refl _ _).alloc (Nat.le_refl _) _)
  have hsz : w2.heap.size = l + 1 := by rw [hW, hl]; simp
  have hl0 : w.heap.size < l := by omega
  have hne : gx ≠ l := by omega
  have hls : l < w2.heap.size := by omega
  have hgs : gx < w2.heap.size := by omega
  have hne2 : w.heap.size ≠ l := by omega
  have c2 := hx2.cell 2
  have c3 := hx2.cell 3
  have c4 := hx2.cell 4
  have c5 := hx2.cell 5
  have c6 := hx2.cell 6
  have c7 := hx2.cell 7
  have c8 := hx2.cell 8
  have c9 := hx2.cell 9
  have c10 := hx2.cell 10
  have c11 := hx2.cell 11
  have c12 := hx2.cell 12
  have c13 := hx2.cell 13
  have c14 := hx2.cell 14
  have c15 := hx2.cell 15
  have l0 := hl2.cell 0
  have l1 := hl2.cell 1
  have l2 := hl2.cell 2
  have l3 := hl2.cell 3
  have m0 := hl2.frozen 0
  simp only [List.getElem?_cons_zero, List.getElem?_cons_succ] at c2 c3 c4 c5 c6 c7 c8 c9 c10 c11 c12 c13 c14 c15 l0 l1 l2 l3
  have HX2 := Lib.hid hx2
  have HL2 := Lib.hid hl2
  have HR2 := Lib.hid hr2
  have HB2 := Lib.hid hb2
  have HS2 := Lib.hid hs2
  have HSZ := Lib.hid hsz
  clear hW hl hx2 hl2 hr2 hb2 hs2 hsz
  try simp only [List.append_eq, List.cons_append, List.nil_append]
  go_region_held3 (fun w' => w'.cell? ⟨gx, 2, none⟩ = some (.int .u8 n0) ∧ w'.cell? ⟨gx, 3, none⟩ = some (.int .u8 n1) ∧ w'.cell? ⟨gx, 4, none⟩ = some (.int .u8 n2) ∧ w'.cell? ⟨gx, 5, none⟩ = some (.int .u8 n3) ∧ w'.cell? ⟨gx, 6, none⟩ = some (.int .i8 (s8 n4)) ∧ w'.cell? ⟨gx, 7, none⟩ = some (.int .i8 (s8 n5)) ∧ w'.cell? ⟨gx, 8, none⟩ = some (.int .u32 n6) ∧ w'.cell? ⟨gx, 9, none⟩ = some (.int .u32 n7) ∧ w'.cell? ⟨gx, 10, none⟩ = some (.int .u32 n8) ∧ w'.cell? ⟨gx, 11, none⟩ = some (.int .u64 n9) ∧ w'.cell? ⟨gx, 12, none⟩ = some (.int .u64 n10) ∧ w'.cell? ⟨gx, 13, none⟩ = some (.int .u64 n11) ∧ w'.cell? ⟨gx, 14, none⟩ = some (.int .u64 n12))
    (first | exact ⟨(far_sa hne hgs).trans (HX2.out.cell 2), (far_sa hne hgs).trans (HX2.out.cell 3), (far_sa hne hgs).trans (HX2.out.cell 4), (far_sa hne hgs).trans (HX2.out.cell 5), (far_sa hne hgs).trans (HX2.out.cell 6), (far_sa hne hgs).trans (HX2.out.cell 7), (far_sa hne hgs).trans (HX2.out.cell 8), (far_sa hne hgs).trans (HX2.out.cell 9), (far_sa hne hgs).trans (HX2.out.cell 10), (far_sa hne hgs).trans (HX2.out.cell 11), (far_sa hne hgs).trans (HX2.out.cell 12), (far_sa hne hgs).trans (HX2.out.cell 13), (far_sa hne hgs).trans (HX2.out.cell 14)⟩ | go_keep) (fail)
  try simp (disch := omega) only [IntWalk.u64_in]
  obtain ⟨ns, hns⟩ : ∃ ns : List Value, ns = [.int .u64 n0, .int .u64 n1, .int .u64 n2, .int .u64 n3, .int .u64 n4, .int .u64 n5, .int .u64 n6, .int .u64 n7, .int .u64 n8, .int .u64 n9, .int .u64 n10, .int .u64 n11, .int .u64 n12] := ⟨_, rfl⟩
  rw [← hns]
  obtain ⟨w3, hW3⟩ : ∃ w3, w3 = ((w2.setCell ⟨l, 0, none⟩ (.slice (some ⟨w2.heap.size, 0, none⟩) 13 13)).alloc (.cells ns.toArray 46)).drew := ⟨_, rfl⟩
  rw [← hW3]
  have hx3 : Bk w3 gx 152 [Cv, .slice Ap pay.length cp, .int .u8 n0, .int .u8 n1, .int .u8 n2, .int .u8 n3, .int .i8 (s8 n4), .int .i8 (s8 n5), .int .u32 n6, .int .u32 n7, .int .u32 n8, .int .u64 n9, .int .u64 n10, .int .u64 n11, .int .u64 n12, .slice Q d0.length cQ] := by rw [hW3]; exact ((HX2.out.far (p := ⟨l, 0, none⟩) hne _).alloc _).drew
  have hl3 : Bk w3 l 27 [.slice (some ⟨w2.heap.size, 0, none⟩) 13 13, .slice none 0 0, .slice none 0 0, .slice A1 pay.length c1] := by rw [hW3]; exact ((HL2.out.set_ 0 _).alloc _).drew
  have hr3 : Bk w3 w.heap.size 27 [.slice none 0 0, .slice none 0 0, .slice none 0 0, .slice none 0 0] := by rw [hW3]; exact ((HR2.out.far (p := ⟨l, 0, none⟩) hne2 _).alloc _).drew
  have hb3 : Below w.heap.size w w3 := by rw [hW3]; exact ((HB2.out.setCell (p := ⟨l, 0, none⟩) (by simp; omega) _).alloc (by simp; omega) _).drew
  have hs3 : Sl w3 w3.heap.size A1 pay.length (bcs pay) := by
    rw [hW3]
    exact (HS2.out.keep (fun g hg => (Below.heap_alloc _ _ g (by simp; omega)).trans (Below.heap_setCell _ _ _ _ (by simp; omega)))).more (by simp; omega)
  have hN3 : Sl w3 w3.heap.size (some ⟨w2.heap.size, 0, none⟩) 13 (ncs [n0, n1, n2, n3, n4, n5, n6, n7, n8, n9, n10, n11, n12]) := by
    have := Sl.new (w := w2.setCell ⟨l, 0, none⟩ (.slice (some ⟨w2.heap.size, 0, none⟩) 13 13)) (t := 46) (cs := ns) (n := 13) (by rw [hns]; rfl)
    rw [hW3]
    refine Sl.cast ((this.keep (fun _ _ => rfl)).more (by simp)) ?_ |>.castA (by simp)
    rw [hns]; simp [ncs]
  have hz3 := hb3.size
  have hz2 : l < w3.heap.size := by rw [hW3]; simp; omega
  have cq := hx3.cell 15
  simp only [List.getElem?_cons_zero, List.getElem?_cons_succ] at cq
  have HX3 := Lib.hid hx3
  have HL3 := Lib.hid hl3
  have HR3 := Lib.hid hr3
  have HB3 := Lib.hid hb3
  have HS3 := Lib.hid hs3
  have HN3 := Lib.hid hN3
  clear hns hW3 hx3 hl3 hr3 hb3 hs3 hN3 c2 c3 c4 c5 c6 c7 c8 c9 c10 c11 c12 c13 c14 c15 l0 l1 l2 l3 m0
  go_wp2_with fail
  refine (clone_new Q d0.length cQ d0 w3 ((HQ.out.below HB3.out).more hz3) (by omega)).mono ?_
  rintro e w4 ⟨A4, c4, rfl, hf4, hb4, hs4⟩
  have hz4 := hb4.size
  have hls4 : l < w4.heap.size := by omega
  have hl4 := HL3.out.below hb4 hz2
  have l0 := hl4.cell 0
  have l1 := hl4.cell 1
  have l2 := hl4.cell 2
  have l3 := hl4.cell 3
  have m1 := hl4.frozen 1
  simp only [List.getElem?_cons_zero, List.getElem?_cons_succ] at l0 l1 l2 l3
  have HL4 := Lib.hid hl4
  have HB4 := Lib.hid hb4
  have HF4 := Lib.hid hf4
  have HS4 := Lib.hid hs4
  clear hl4 hb4 hf4 hs4
  go_upto_region 124 with fail
  obtain ⟨dv, hdv⟩ : ∃ dv : List Value, dv = [.slice A4 d0.length c4] := ⟨_, rfl⟩
  rw [← hdv]
  obtain ⟨w5, hW5⟩ : ∃ w5, w5 = ((w4.setCell ⟨l, 1, none⟩ (.slice (some ⟨w4.heap.size, 0, none⟩) 1 1)).alloc (.cells dv.toArray 25)) := ⟨_, rfl⟩
  rw [← hW5]
  have hl5 : Bk w5 l 27 [.slice (some ⟨w2.heap.size, 0, none⟩) 13 13, .slice (some ⟨w4.heap.size, 0, none⟩) 1 1, .slice none 0 0, .slice A1 pay.length c1] := by rw [hW5]; exact ((HL4.out.set_ 1 _).alloc _)
  have hr5 : Bk w5 w.heap.size 27 [.slice none 0 0, .slice none 0 0, .slice none 0 0, .slice none 0 0] := by rw [hW5]; exact (((HR3.out.below HB4.out (by omega)).far (p := ⟨l, 1, none⟩) hne2 _).alloc _)
  have hb5 : Below w.heap.size w w5 := by rw [hW5]; exact ((HB3.out.trans (HB4.out.mono hz3)).setCell (p := ⟨l, 1, none⟩) (by simp; omega) _).alloc (by simp; omega) _
  have hk5 : ∀ (A : Option Addr) (n : Nat) (xs : List Value), Sl w4 w4.heap.size A n xs → (0 < n → ∀ q, A = some q → q.block ≠ l) → Sl w5 w5.heap.size A n xs := fun A n xs h hA => by
    rcases Nat.eq_zero_or_pos n with h0 | h0
    · exact ⟨h.1, fun h1 => absurd h1 (by omega)⟩
    · rw [hW5]
      exact ((h.grown_ (only_set (grownBy_refl' _ (some l)) (.inl rfl) _) (Nat.le_refl _) (hA h0)).below ((Below.refl _ _).alloc (by simp) _)).more (by simp)
  have hN5 : Sl w5 w5.heap.size (some ⟨w2.heap.size, 0, none⟩) 13 (ncs [n0, n1, n2, n3, n4, n5, n6, n7, n8, n9, n10, n11, n12]) := hk5 _ _ _ ((HN3.out.below HB4.out).more hz4) (fun _ q e => by cases e; simp; omega)
  have hS5 : Sl w5 w5.heap.size A1 pay.length (bcs pay) := hk5 _ _ _ ((HS3.out.below HB4.out).more hz4) (fun h0 q e => by
    obtain ⟨g', o', e', hb', _⟩ := HS2.out.2 h0
    rw [e] at e'
    cases e'
    simp
    omega)
  have hD5 : Sl w5 w5.heap.size A4 d0.length (bcs d0) := hk5 _ _ _ HS4.out (fun _ q e => by have := HF4.out q e; omega)
  have hV5 : Sl w5 w5.heap.size (some ⟨w4.heap.size, 0, none⟩) 1 dv := by
    have := Sl.new (w := w4.setCell ⟨l, 1, none⟩ (.slice (some ⟨w4.heap.size, 0, none⟩) 1 1)) (t := 25) (cs := dv) (n := 1) (by rw [hdv]; rfl)
    rw [hW5]
    exact (this.more (by simp)).castA (by simp)
  have hE5 : EachF w5 w5.heap.size 0 (w.heap.size + 1) dv [d0] := by rw [hdv]; exact EachF.cons (EachF.nil _ _ _ _) hD5 (Fr2.of_fr HF4.out (by omega))
  have l0 := hl5.cell 0
  have l1 := hl5.cell 1
  have l2 := hl5.cell 2
  have l3 := hl5.cell 3
  have k0 := hr5.cell 0
  have k1 := hr5.cell 1
  have k2 := hr5.cell 2
  have k3 := hr5.cell 3
  have f0 := hr5.frozen 0
  have f1 := hr5.frozen 1
  have f2 := hr5.frozen 2
  have f3 := hr5.frozen 3
  simp only [List.getElem?_cons_zero, List.getElem?_cons_succ] at l0 l1 l2 l3 k0 k1 k2 k3
  have HR5 := Lib.hid hr5
  have HB5 := Lib.hid hb5
  have HS5 := Lib.hid hS5
  have HN5 := Lib.hid hN5
  have HV5 := Lib.hid hV5
  have HE5 := Lib.hid hE5
  clear hdv hW5 hl5 hr5 hb5 hS5 hN5 hV5 hE5 hD5 hk5 m1
  go_wp2_with fail
  have hLL := LyrF.mk (B0 := 0) (B1 := w.heap.size + 1) (cN := 13) (cD := 1) (AP := none) (cP := 0) (cB := c1) HN5.out HV5.out HE5.out HS5.out (Fr2.new (by omega)) (Fr2.new (by omega)) (Fr2.of_fr HF1.out (by simp))
  have hfin := read_end (w := w) hLL HB5.out (Nat.zero_le _) (Nat.lt_succ_self _) (Nat.le_refl _)
  obtain ⟨z0, z1, z2, z3⟩ := set4_cells HR5.out (.slice (some ⟨w2.heap.size, 0, none⟩) 13 13) (.slice (some ⟨w4.heap.size, 0, none⟩) 1 1) (.slice none 0 0) (.slice A1 pay.length c1)
  exact bodyPost_ret (v := .tuple #[.agg #[.slice (some ⟨w2.heap.size, 0, none⟩) 13 13, .slice (some ⟨w4.heap.size, 0, none⟩) 1 1, .slice none 0 0, .slice A1 pay.length c1], .bool true]) (by simp [results, Tryz.results59, go_sem, z0, z1, z2, z3]) rfl (hR.out _ _ ⟨_, rfl, hfin.1, hfin.2⟩)
end Go.Proofs.YtphmklgbbpiafaaGreat
