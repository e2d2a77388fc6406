/-
  Pppoe: what told makes of it. No condition.
-/
import Derived.Deep.RegionHeld3
import Derived.Test.YtphmklgbbpiafaaGreatMplsE
namespace Go.Proofs.YtphmklgbbpiafaaGreat
open Go Go.RowKit
set_option linter.unusedVariables false
attribute [local go_sem] sd_drewN ad_drewN
set_option maxRecDepth 1000000 in
set_option maxHeartbeats 10000000 in
theorem told_pppoe (n0 n1 n2 n3 n4 : Nat) (h0 : n0 < 16) (h1 : n1 < 16) (h2 : n2 < 256) (h3 : n3 < 65536) (h4 : n4 < 65536) (pay : List UInt8) (hp : pay.length ≤ 1000) : Tolds 73 79 pay (Fld.just [.int .u8 n0, .int .u8 n1, .int .u8 n2, .int .u16 n3, .int .u16 n4]) [n0, n1, n2, n3, n4] [] := by
  intro gx Cv Ap cp fs w hx hs hF
  refine calls_hid fun R hR => ?_
  simp only [Fld.just] at hF
  subst hF
  have hlt := hx.lt
  have HX := Lib.hid hx
  have HS := Lib.hid hs
  clear hx hs
  have ta73 : ∀ W, (Instr.typeAssert (.iface 73 (.pointer (some ⟨gx, 0, none⟩))) 20 73 true).run Tryz.prog W = .ok (.tuple #[.pointer (some ⟨gx, 0, none⟩), .bool true]) W := fun _ => by kernel_rfl
  go_enter Tryz.func59, Tryz.ntmps59
  go_wp2_with fail
  refine (clone_new Ap pay.length cp pay _ ((HS.out.below ((Below.refl _ _).alloc (Nat.le_refl _) _)).more (by simp)) (by omega)).mono ?_
  rintro e w1 ⟨A1, c1, rfl, hf1, hb1, hs1⟩
  have hz := hb1.size
  simp only [World.size_alloc] at hz
  have hx1 := (HX.out.alloc _).below hb1 (by simp; omega)
  have hres := (Bk.new w 27 [.slice none 0 0, .slice none 0 0, .slice none 0 0, .slice none 0 0]).below hb1 (by simp)
  have HX1 := Lib.hid hx1
  have HRES := Lib.hid hres
  have HB1 := Lib.hid hb1
  have HF1 := Lib.hid hf1
  have HS1 := Lib.hid hs1
  clear hb1 hf1 hs1 hx1 hres
  go_wp2_with fail
  clear ta73
  obtain ⟨w2, hW⟩ : ∃ w2, w2 = w1.alloc (.cells #[.slice none 0 0, .slice none 0 0, .slice none 0 0, .slice A1 pay.length c1] 27) := ⟨_, rfl⟩
  obtain ⟨l, hl⟩ : ∃ l, l = w1.heap.size := ⟨_, rfl⟩
  rw [← hW, ← hl]
  have hx2 : Bk w2 gx 79 [Cv, .slice Ap pay.length cp, .int .u8 n0, .int .u8 n1, .int .u8 n2, .int .u16 n3, .int .u16 n4] := by rw [hW]; exact HX1.out.alloc _
  have hl2 : Bk w2 l 27 [.slice none 0 0, .slice none 0 0, .slice none 0 0, .slice A1 pay.length c1] := by rw [hW, hl]; exact Bk.new _ _ _
  have hr2 : Bk w2 w.heap.size 27 [.slice none 0 0, .slice none 0 0, .slice none 0 0, .slice none 0 0] := by rw [hW]; exact HRES.out.alloc _
  have hb2 : Below w.heap.size w w2 := by rw [hW]; exact (((Below.refl _ w).alloc (Nat.le_refl _) _).trans (HB1.out.mono (by simp))).alloc (by omega) _
  have hs2 : Sl w2 l A1 pay.length (bcs pay) := by rw [hW, hl]; exact HS1.out.below ((Below.refl _ _).alloc (Nat.le_refl _) _)
  have hsz : w2.heap.size = l + 1 := by rw [hW, hl]; simp
  have hl0 : w.heap.size < l := by omega
  have hne : gx ≠ l := by omega
  have hls : l < w2.heap.size := by omega
  have hgs : gx < w2.heap.size := by omega
  have hne2 : w.heap.size ≠ l := by omega
  have c2 := hx2.cell 2
  have c3 := hx2.cell 3
  have c4 := hx2.cell 4
  have c5 := hx2.cell 5
  have c6 := hx2.cell 6
  have l0 := hl2.cell 0
  have l1 := hl2.cell 1
  have l2 := hl2.cell 2
  have l3 := hl2.cell 3
  have m0 := hl2.frozen 0
  simp only [List.getElem?_cons_zero, List.getElem?_cons_succ] at c2 c3 c4 c5 c6 l0 l1 l2 l3
  have HX2 := Lib.hid hx2
  have HL2 := Lib.hid hl2
  have HR2 := Lib.hid hr2
  have HB2 := Lib.hid hb2
  have HS2 := Lib.hid hs2
  have HSZ := Lib.hid hsz
  clear hW hl hx2 hl2 hr2 hb2 hs2 hsz
  go_region_held3 (fun w' => w'.cell? ⟨gx, 2, none⟩ = some (.int .u8 n0) ∧ w'.cell? ⟨gx, 3, none⟩ = some (.int .u8 n1) ∧ w'.cell? ⟨gx, 4, none⟩ = some (.int .u8 n2) ∧ w'.cell? ⟨gx, 5, none⟩ = some (.int .u16 n3) ∧ w'.cell? ⟨gx, 6, none⟩ = some (.int .u16 n4))
    (first | exact ⟨(far_sa hne hgs).trans (HX2.out.cell 2), (far_sa hne hgs).trans (HX2.out.cell 3), (far_sa hne hgs).trans (HX2.out.cell 4), (far_sa hne hgs).trans (HX2.out.cell 5), (far_sa hne hgs).trans (HX2.out.cell 6)⟩ | go_keep) (fail)
  simp (disch := omega) only [IntWalk.u64_in]
  obtain ⟨ns, hns⟩ : ∃ ns : List Value, ns = [.int .u64 n0, .int .u64 n1, .int .u64 n2, .int .u64 n3, .int .u64 n4] := ⟨_, rfl⟩
  rw [← hns]
  obtain ⟨w3, hW3⟩ : ∃ w3, w3 = ((w2.setCell ⟨l, 0, none⟩ (.slice (some ⟨w2.heap.size, 0, none⟩) 5 5)).alloc (.cells ns.toArray 46)).drew := ⟨_, rfl⟩
  rw [← hW3]
  have hl3 : Bk w3 l 27 [.slice (some ⟨w2.heap.size, 0, none⟩) 5 5, .slice none 0 0, .slice none 0 0, .slice A1 pay.length c1] := by rw [hW3]; exact ((HL2.out.set_ 0 _).alloc _).drew
  have hr3 : Bk w3 w.heap.size 27 [.slice none 0 0, .slice none 0 0, .slice none 0 0, .slice none 0 0] := by rw [hW3]; exact ((HR2.out.far (p := ⟨l, 0, none⟩) hne2 _).alloc _).drew
  have hb3 : Below w.heap.size w w3 := by rw [hW3]; exact ((HB2.out.setCell (p := ⟨l, 0, none⟩) (by simp; omega) _).alloc (by simp; omega) _).drew
  have hs3 : Sl w3 w3.heap.size A1 pay.length (bcs pay) := by
    rw [hW3]
    exact (HS2.out.keep (fun g hg => (Below.heap_alloc _ _ g (by simp; omega)).trans (Below.heap_setCell _ _ _ _ (by simp; omega)))).more (by simp; omega)
  have hN3 : Sl w3 w3.heap.size (some ⟨w2.heap.size, 0, none⟩) 5 (ncs [n0, n1, n2, n3, n4]) := by
    have := Sl.new (w := w2.setCell ⟨l, 0, none⟩ (.slice (some ⟨w2.heap.size, 0, none⟩) 5 5)) (t := 46) (cs := ns) (n := 5) (by rw [hns]; rfl)
    rw [hW3]
    refine Sl.cast ((this.keep (fun _ _ => rfl)).more (by simp)) ?_ |>.castA (by simp)
    rw [hns]; simp [ncs]
  have l0 := hl3.cell 0
  have l1 := hl3.cell 1
  have l2 := hl3.cell 2
  have l3 := hl3.cell 3
  have k0 := hr3.cell 0
  have k1 := hr3.cell 1
  have k2 := hr3.cell 2
  have k3 := hr3.cell 3
  have f0 := hr3.frozen 0
  have f1 := hr3.frozen 1
  have f2 := hr3.frozen 2
  have f3 := hr3.frozen 3
  simp only [List.getElem?_cons_zero, List.getElem?_cons_succ] at l0 l1 l2 l3 k0 k1 k2 k3
  have HR3 := Lib.hid hr3
  have HB3 := Lib.hid hb3
  have HS3 := Lib.hid hs3
  have HN3 := Lib.hid hN3
  clear hns hW3 hl3 hr3 hb3 hs3 hN3
  go_wp2_with fail
  have hLL := LyrF.plain (B0 := 0) (B1 := w.heap.size + 1) (cN := 5) (cB := c1) HN3.out HS3.out (Fr2.new (by omega)) (Fr2.of_fr HF1.out (by simp))
  have hfin := read_end (w := w) hLL HB3.out (Nat.zero_le _) (Nat.lt_succ_self _) (Nat.le_refl _)
  obtain ⟨z0, z1, z2, z3⟩ := set4_cells HR3.out (.slice (some ⟨w2.heap.size, 0, none⟩) 5 5) (.slice none 0 0) (.slice none 0 0) (.slice A1 pay.length c1)
  exact bodyPost_ret (v := .tuple #[.agg #[.slice (some ⟨w2.heap.size, 0, none⟩) 5 5, .slice none 0 0, .slice none 0 0, .slice A1 pay.length c1], .bool true]) (by simp [results, Tryz.results59, go_sem, z0, z1, z2, z3]) rfl (hR.out _ _ ⟨_, rfl, hfin.1, hfin.2⟩)
end Go.Proofs.YtphmklgbbpiafaaGreat
