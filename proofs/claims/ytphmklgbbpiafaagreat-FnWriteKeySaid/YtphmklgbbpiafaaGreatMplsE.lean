/-
  MPLS: what told makes of it. No condition.
-/
import Derived.Deep.RegionHeld3
import Derived.Test.YtphmklgbbpiafaaGreatDecA
namespace Go.Proofs.YtphmklgbbpiafaaGreat
open Go Go.RowKit
set_option linter.unusedVariables false
attribute [local go_sem] sd_drewN ad_drewN
theorem bit_still (n : Nat) (h : n < 2) (w : World) : Calls Tryz.prog 70 #[.bool (bt n)] w fun e w' => e = .returned (.int .u64 n) ∧ w' = w :=
  (bit_any n h w).mono fun e w' ⟨a, b⟩ => ⟨a, b.symm⟩
theorem Sl.castA {w : World} {B n : Nat} {A A' : Option Addr} {xs : List Value} (h : Sl w B A n xs) (e : A = A') : Sl w B A' n xs := e ▸ h
theorem far_sa {w : World} {l gx i : Nat} {u : Value} {O : Obj} (hne : gx ≠ l) (hg : gx < w.heap.size) : ((w.setCell ⟨l, 0, none⟩ u).alloc O).drew.cell? ⟨gx, i, none⟩ = w.cell? ⟨gx, i, none⟩ := by
  have e : ((w.setCell ⟨l, 0, none⟩ u).alloc O).heap[gx]? = w.heap[gx]? := (Below.heap_alloc _ _ gx (by simpa [World.setCell] using hg)).trans (Below.heap_setCell _ _ _ _ hne)
  exact World.cell?_of_block (w := w) e
set_option maxRecDepth 1000000 in
set_option maxHeartbeats 10000000 in
theorem told_mpls (n0 n1 n2 n3 : Nat) (h0 : n0 < 1048576) (h1 : n1 < 8) (h2 : n2 < 2) (h3 : n3 < 256) (pay : List UInt8) (hp : pay.length ≤ 1000) : Tolds 111 114 pay (Fld.just [.int .u32 n0, .int .u8 n1, .bool (bt n2), .int .u8 n3]) [n0, n1, n2, n3] [] := by
  intro gx Cv Ap cp fs w hx hs hF
  refine calls_hid fun R hR => ?_
  simp only [Fld.just] at hF
  subst hF
  have hlt := hx.lt
  have HX := Lib.hid hx
  have HS := Lib.hid hs
  clear hx hs
  have ta73 : ∀ W, (Instr.typeAssert (.iface 111 (.pointer (some ⟨gx, 0, none⟩))) 20 73 true).run Tryz.prog W = .ok (.tuple #[.pointer none, .bool false]) W := fun _ => by kernel_rfl
  have ta81 : ∀ W, (Instr.typeAssert (.iface 111 (.pointer (some ⟨gx, 0, none⟩))) 20 81 true).run Tryz.prog W = .ok (.tuple #[.pointer none, .bool false]) W := fun _ => by kernel_rfl
  have ta85 : ∀ W, (Instr.typeAssert (.iface 111 (.pointer (some ⟨gx, 0, none⟩))) 20 85 true).run Tryz.prog W = .ok (.tuple #[.pointer none, .bool false]) W := fun _ => by kernel_rfl
  have ta88 : ∀ W, (Instr.typeAssert (.iface 111 (.pointer (some ⟨gx, 0, none⟩))) 20 88 true).run Tryz.prog W = .ok (.tuple #[.pointer none, .bool false]) W := fun _ => by kernel_rfl
  have ta92 : ∀ W, (Instr.typeAssert (.iface 111 (.pointer (some ⟨gx, 0, none⟩))) 20 92 true).run Tryz.prog W = .ok (.tuple #[.pointer none, .bool false]) W := fun _ => by kernel_rfl
  have ta185 : ∀ W, (Instr.typeAssert (.iface 111 (.pointer (some ⟨gx, 0, none⟩))) 20 185 true).run Tryz.prog W = .ok (.tuple #[.pointer none, .bool false]) W := fun _ => by kernel_rfl
  have ta190 : ∀ W, (Instr.typeAssert (.iface 111 (.pointer (some ⟨gx, 0, none⟩))) 20 190 true).run Tryz.prog W = .ok (.tuple #[.pointer none, .bool false]) W := fun _ => by kernel_rfl
  have ta96 : ∀ W, (Instr.typeAssert (.iface 111 (.pointer (some ⟨gx, 0, none⟩))) 20 96 true).run Tryz.prog W = .ok (.tuple #[.pointer none, .bool false]) W := fun _ => by kernel_rfl
  have ta100 : ∀ W, (Instr.typeAssert (.iface 111 (.pointer (some ⟨gx, 0, none⟩))) 20 100 true).run Tryz.prog W = .ok (.tuple #[.pointer none, .bool false]) W := fun _ => by kernel_rfl
  have ta106 : ∀ W, (Instr.typeAssert (.iface 111 (.pointer (some ⟨gx, 0, none⟩))) 20 106 true).run Tryz.prog W = .ok (.tuple #[.pointer none, .bool false]) W := fun _ => by kernel_rfl
  have ta111 : ∀ W, (Instr.typeAssert (.iface 111 (.pointer (some ⟨gx, 0, none⟩))) 20 111 true).run Tryz.prog W = .ok (.tuple #[.pointer (some ⟨gx, 0, none⟩), .bool true]) W := fun _ => by kernel_rfl
  go_enter Tryz.func59, Tryz.ntmps59
  go_wp2_with fail
  refine (clone_new Ap pay.length cp pay _ ((HS.out.below ((Below.refl _ _).alloc (Nat.le_refl _) _)).more (by simp)) (by omega)).mono ?_
  rintro e w1 ⟨A1, c1, rfl, hf1, hb1, hs1⟩
  have hz := hb1.size
  simp only [World.size_alloc] at hz
  have hx1 := (HX.out.alloc _).below hb1 (by simp; omega)
  have hres := (Bk.new w 27 [.slice none 0 0, .slice none 0 0, .slice none 0 0, .slice none 0 0]).below hb1 (by simp)
  have HX1 := Lib.hid hx1
  have HRES := Lib.hid hres
  have HB1 := Lib.hid hb1
  have HF1 := Lib.hid hf1
  have HS1 := Lib.hid hs1
  clear hb1 hf1 hs1 hx1 hres
  go_wp2_with fail
  clear ta73 ta81 ta85 ta88 ta92 ta185 ta190 ta96 ta100 ta106 ta111
  obtain ⟨w2, hW⟩ : ∃ w2, w2 = w1.alloc (.cells #[.slice none 0 0, .slice none 0 0, .slice none 0 0, .slice A1 pay.length c1] 27) := ⟨_, rfl⟩
  obtain ⟨l, hl⟩ : ∃ l, l = w1.heap.size := ⟨_, rfl⟩
  rw [← hW, ← hl]
  have hx2 : Bk w2 gx 114 [Cv, .slice Ap pay.length cp, .int .u32 n0, .int .u8 n1, .bool (bt n2), .int .u8 n3] := by rw [hW]; exact HX1.out.alloc _
  have hl2 : Bk w2 l 27 [.slice none 0 0, .slice none 0 0, .slice none 0 0, .slice A1 pay.length c1] := by rw [hW, hl]; exact Bk.new _ _ _
  have hr2 : Bk w2 w.heap.size 27 [.slice none 0 0, .slice none 0 0, .slice none 0 0, .slice none 0 0] := by rw [hW]; exact HRES.out.alloc _
  have hb2 : Below w.heap.size w w2 := by rw [hW]; exact (((Below.refl _ w).alloc (Nat.le_refl _) _).trans (HB1.out.mono (by simp))).alloc (by omega) _
  have hs2 : Sl w2 l A1 pay.length (bcs pay) := by rw [hW, hl]; exact HS1.out.below ((Below.refl _ _).alloc (Nat.le_refl _) _)
  have hsz : w2.heap.size = l + 1 := by rw [hW, hl]; simp
  have hl0 : w.heap.size < l := by omega
  have hne : gx ≠ l := by omega
  have hls : l < w2.heap.size := by omega
  have hgs : gx < w2.heap.size := by omega
  have hne2 : w.heap.size ≠ l := by omega
  have c2 := hx2.cell 2
  have c3 := hx2.cell 3
  have c4 := hx2.cell 4
  have c5 := hx2.cell 5
  have l0 := hl2.cell 0
  have l1 := hl2.cell 1
  have l2 := hl2.cell 2
  have l3 := hl2.cell 3
  have m0 := hl2.frozen 0
  simp only [List.getElem?_cons_zero, List.getElem?_cons_succ] at c2 c3 c4 c5 l0 l1 l2 l3
  have HX2 := Lib.hid hx2
  have HL2 := Lib.hid hl2
  have HR2 := Lib.hid hr2
  have HB2 := Lib.hid hb2
  have HS2 := Lib.hid hs2
  have HSZ := Lib.hid hsz
  clear hW hl hx2 hl2 hr2 hb2 hs2 hsz
  go_region_held3 (fun w' => w'.cell? ⟨gx, 2, none⟩ = some (.int .u32 n0) ∧ w'.cell? ⟨gx, 3, none⟩ = some (.int .u8 n1) ∧ w'.cell? ⟨gx, 4, none⟩ = some (.bool (bt n2)) ∧ w'.cell? ⟨gx, 5, none⟩ = some (.int .u8 n3))
    (first | exact ⟨(far_sa hne hgs).trans (HX2.out.cell 2), (far_sa hne hgs).trans (HX2.out.cell 3), (far_sa hne hgs).trans (HX2.out.cell 4), (far_sa hne hgs).trans (HX2.out.cell 5)⟩ | go_keep) ((go_at_call 70; refine (bit_any n2 h2 _).mono ?_; rintro e w' ⟨rfl, rfl⟩))
  simp (disch := omega) only [IntWalk.u64_in]
  obtain ⟨ns, hns⟩ : ∃ ns : List Value, ns = [.int .u64 n0, .int .u64 n1, .int .u64 n2, .int .u64 n3] := ⟨_, rfl⟩
  rw [← hns]
  obtain ⟨w3, hW3⟩ : ∃ w3, w3 = ((w2.setCell ⟨l, 0, none⟩ (.slice (some ⟨w2.heap.size, 0, none⟩) 4 4)).alloc (.cells ns.toArray 46)).drew := ⟨_, rfl⟩
  rw [← hW3]
  have hl3 : Bk w3 l 27 [.slice (some ⟨w2.heap.size, 0, none⟩) 4 4, .slice none 0 0, .slice none 0 0, .slice A1 pay.length c1] := by rw [hW3]; exact ((HL2.out.set_ 0 _).alloc _).drew
  have hr3 : Bk w3 w.heap.size 27 [.slice none 0 0, .slice none 0 0, .slice none 0 0, .slice none 0 0] := by rw [hW3]; exact ((HR2.out.far (p := ⟨l, 0, none⟩) hne2 _).alloc _).drew
  have hb3 : Below w.heap.size w w3 := by rw [hW3]; exact ((HB2.out.setCell (p := ⟨l, 0, none⟩) (by simp; omega) _).alloc (by simp; omega) _).drew
  have hs3 : Sl w3 w3.heap.size A1 pay.length (bcs pay) := by
    rw [hW3]
    exact (HS2.out.keep (fun g hg => (Below.heap_alloc _ _ g (by simp; omega)).trans (Below.heap_setCell _ _ _ _ (by simp; omega)))).more (by simp; omega)
  have hN3 : Sl w3 w3.heap.size (some ⟨w2.heap.size, 0, none⟩) 4 (ncs [n0, n1, n2, n3]) := by
    have := Sl.new (w := w2.setCell ⟨l, 0, none⟩ (.slice (some ⟨w2.heap.size, 0, none⟩) 4 4)) (t := 46) (cs := ns) (n := 4) (by rw [hns]; rfl)
    rw [hW3]
    refine Sl.cast ((this.keep (fun _ _ => rfl)).more (by simp)) ?_ |>.castA (by simp)
    rw [hns]; simp [ncs]
  have l0 := hl3.cell 0
  have l1 := hl3.cell 1
  have l2 := hl3.cell 2
  have l3 := hl3.cell 3
  have k0 := hr3.cell 0
  have k1 := hr3.cell 1
  have k2 := hr3.cell 2
  have k3 := hr3.cell 3
  have f0 := hr3.frozen 0
  have f1 := hr3.frozen 1
  have f2 := hr3.frozen 2
  have f3 := hr3.frozen 3
  simp only [List.getElem?_cons_zero, List.getElem?_cons_succ] at l0 l1 l2 l3 k0 k1 k2 k3
  have HR3 := Lib.hid hr3
  have HB3 := Lib.hid hb3
  have HS3 := Lib.hid hs3
  have HN3 := Lib.hid hN3
  clear hns hW3 hl3 hr3 hb3 hs3 hN3
  go_wp2_with fail
  have hLL := LyrF.plain (B0 := 0) (B1 := w.heap.size + 1) (cN := 4) (cB := c1) HN3.out HS3.out (Fr2.new (by omega)) (Fr2.of_fr HF1.out (by simp))
  have hfin := read_end (w := w) hLL HB3.out (Nat.zero_le _) (Nat.lt_succ_self _) (Nat.le_refl _)
  obtain ⟨z0, z1, z2, z3⟩ := set4_cells HR3.out (.slice (some ⟨w2.heap.size, 0, none⟩) 4 4) (.slice none 0 0) (.slice none 0 0) (.slice A1 pay.length c1)
  exact bodyPost_ret (v := .tuple #[.agg #[.slice (some ⟨w2.heap.size, 0, none⟩) 4 4, .slice none 0 0, .slice none 0 0, .slice A1 pay.length c1], .bool true]) (by simp [results, Tryz.results59, go_sem, z0, z1, z2, z3]) rfl (hR.out _ _ ⟨_, rfl, hfin.1, hfin.2⟩)
end Go.Proofs.YtphmklgbbpiafaaGreat
