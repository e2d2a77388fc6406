/-
  decodingLayerDecoder of any layer with a DecodeFromBytes of its own. No condition.
-/
import Derived.Test.YtphmklgbbpiafaaGreatDecA
namespace Go.Proofs.YtphmklgbbpiafaaGreat
open Go Go.RowKit
set_option linter.unusedVariables false
attribute [local go_sem] sd_drewN ad_drewN
set_option maxRecDepth 100000 in
set_option maxHeartbeats 4000000 in
theorem dld_any (Tp T : TypeId) (f : FuncId) (gx gk : Nat) (u sl : Value) (Q : World → Prop)
    (hnil : ∀ W, (nilAhead 390 Tp (.pointer (some ⟨gx, 0, none⟩)) "DecodeFromBytes").run Tryz.prog W = .ok (some false) W)
    (hmeth : ∀ W, (method 390 Tp (.pointer (some ⟨gx, 0, none⟩)) "DecodeFromBytes").run Tryz.prog W = .ok (f, .pointer (some ⟨gx, 0, none⟩)) W)
    (hent : ∀ args W, (callFunc f args).run Tryz.prog W = .ok (.enter f args) W)
    (w : World) (hk : Bk w gk 236 [u]) (hgk : gk < gx)
    (hD : Calls Tryz.prog f #[.pointer (some ⟨gx, 0, none⟩), sl, .iface 234 (.pointer (some ⟨gk, 0, none⟩))] w fun e w' => e = .returned .nilIface ∧ Below gx w w' ∧ Q w') :
    Calls Tryz.prog 105 #[.iface Tp (.pointer (some ⟨gx, 0, none⟩)), sl, .iface 234 (.pointer (some ⟨gk, 0, none⟩))] w fun e w' => e = .returned .nilIface ∧
      ∃ w1, Below gx w w1 ∧ Q w1 ∧ Bk w1 gk 236 [u] ∧ w' = w1.setCell ⟨gk, 0, none⟩ (.iface Tp (.pointer (some ⟨gx, 0, none⟩))) := by
  refine calls_hid fun R hR => ?_
  have HD := Lib.hid hD
  have HK := Lib.hid hk
  clear hD hk
  go_enter Tryz.func105, Tryz.ntmps105
  go_wp2_with fail
  refine HD.out.mono ?_
  rintro e w1 ⟨rfl, hb, hq⟩
  have hk1 := HK.out.below hb hgk
  have HB := Lib.hid hb
  have HQ := Lib.hid hq
  have HK1 := Lib.hid hk1
  clear hb hq hk1
  go_wp2_with fail
  refine (addlayer gk u _ Tp w1 HK1.out).mono ?_
  rintro e w2 ⟨rfl, rfl⟩
  go_wp2_with fail
  exact hR.out _ _ ⟨rfl, w1, HB.out, HQ.out, HK1.out, rfl⟩
/-- What a DecodeFromBytes does to the fresh layer in block gx, its bytes lying below B. -/
def Dfbs (B gx : Nat) (T : TypeId) (pay : List UInt8) (F : Fld) (w : World) (e : Ending) (w' : World) : Prop :=
  ∃ Cv Ap cp fs, e = .returned .nilIface ∧ Below gx w w' ∧ Bk w' gx T (Cv :: .slice Ap pay.length cp :: fs) ∧ Sl w' B Ap pay.length (bcs pay) ∧ F.F w' B fs
theorem dld_decs (Tp T : TypeId) (f : FuncId) (gx gk : Nat) (u sl : Value) (pay : List UInt8) (F : Fld)
    (hnil : ∀ W, (nilAhead 390 Tp (.pointer (some ⟨gx, 0, none⟩)) "DecodeFromBytes").run Tryz.prog W = .ok (some false) W)
    (hmeth : ∀ W, (method 390 Tp (.pointer (some ⟨gx, 0, none⟩)) "DecodeFromBytes").run Tryz.prog W = .ok (f, .pointer (some ⟨gx, 0, none⟩)) W)
    (hent : ∀ args W, (callFunc f args).run Tryz.prog W = .ok (.enter f args) W)
    (w0 w : World) (hk : Bk w gk 236 [u]) (hgk : gk < gx) (h0 : w0.heap.size = gx) (hb0 : Below gx w0 w)
    (hD : Calls Tryz.prog f #[.pointer (some ⟨gx, 0, none⟩), sl, .iface 234 (.pointer (some ⟨gk, 0, none⟩))] w (Dfbs gk gx T pay F w)) :
    Calls Tryz.prog 105 #[.iface Tp (.pointer (some ⟨gx, 0, none⟩)), sl, .iface 234 (.pointer (some ⟨gk, 0, none⟩))] w fun e w' => ∃ gx Cv Ap cp fs, e = .returned .nilIface ∧ w0.heap.size ≤ gx ∧ Bk w' gk 236 [.iface Tp (.pointer (some ⟨gx, 0, none⟩))] ∧
      Bk w' gx T (Cv :: .slice Ap pay.length cp :: fs) ∧ Sl w' gk Ap pay.length (bcs pay) ∧ F.F w' gk fs ∧ w0.grownBy w' (some gk) := by
  refine (dld_any Tp T f gx gk u sl (fun w' => ∃ Cv Ap cp fs, Bk w' gx T (Cv :: .slice Ap pay.length cp :: fs) ∧ Sl w' gk Ap pay.length (bcs pay) ∧ F.F w' gk fs) hnil hmeth hent w hk hgk (hD.mono ?_)).mono ?_
  · rintro e w' ⟨Cv, Ap, cp, fs, h1, h2, h3, h4, h5⟩
    exact ⟨h1, h2, Cv, Ap, cp, fs, h3, h4, h5⟩
  · rintro e w' ⟨he, w1, hb, ⟨Cv, Ap, cp, fs, h3, h4, h5⟩, hk1, rfl⟩
    have hset : Below gk w1 (w1.setCell ⟨gk, 0, none⟩ (.iface Tp (.pointer (some ⟨gx, 0, none⟩)))) := (Below.refl _ _).setCell (p := ⟨gk, 0, none⟩) (Nat.le_refl _) _
    refine ⟨gx, Cv, Ap, cp, fs, he, by omega, hk1.set_ 0 _, h3.far (p := ⟨gk, 0, none⟩) (by simp; omega) _, h4.below hset, F.keep _ _ _ _ h5 hset, ?_⟩
    refine only_set ?_ (.inl rfl) _
    exact grown_of_below (by rw [h0]; exact hb0.trans hb) _
end Go.Proofs.YtphmklgbbpiafaaGreat
