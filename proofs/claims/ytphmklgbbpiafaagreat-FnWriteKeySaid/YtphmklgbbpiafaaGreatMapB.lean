/-
  The table of least lengths, as spec.Read lays it entry by entry and looks into it. No condition.
-/
import Derived.Test.YtphmklgbbpiafaaGreatMapA
namespace Go.Proofs.YtphmklgbbpiafaaGreat
open Go Go.RowKit
set_option linter.unusedVariables false

theorem ins (w : World) (g clk : Nat) (es : List MapEntry) (s : ByteArray) (val : Value) (hb : Mp w g es clk) (hf : Instr.findNow .string (.string s) es 0 = some none) :
    ∃ w', (Instr.mapUpdate 164 (.map (some g)) (.string s) val).run Tryz.prog w = .ok () w' ∧ Mp w' g (es ++ [{ key := .string s, val := val, born := clk }]) (clk + 1) ∧ w.grownBy w' (some g) := by
  refine ⟨_, run_insert w g clk es s val hb hf, ?_, ?_⟩
  · have hlt : g < w.heap.size := by
      unfold Mp at hb
      rcases Nat.lt_or_ge g w.heap.size with hlt | hge
      · exact hlt
      · rw [Array.getElem?_eq_none hge] at hb; cases hb
    simp [Mp, hlt]
  · refine ⟨rfl, rfl, rfl, by simp, fun i hi hne => ?_⟩
    have : g ≠ i := fun e => hne (by rw [e])
    simp [this]
theorem look (w : World) (g clk i : Nat) (es : List MapEntry) (s : ByteArray) (val : Value) (hb : Mp w g es clk) (hf : Instr.findNow .string (.string s) es 0 = some (some (i, val))) :
    (Instr.lookup 164 (.map (some g)) (.string s) false).run Tryz.prog w = .ok val w := by
  unfold Mp at hb
  have hf' : Instr.findNow .string (.string s) es.toArray.toList 0 = some (some (i, val)) := by simpa using hf
  have hc : ∀ e, (Instr.checkKey e 10000 9 (.string s)).run Tryz.prog w = .ok () w := fun e => MapKept.run_checkKey (k := .string s) Tryz.underlying9 (by simp [MapKept.IsKey]) e 9999
  simp [Instr.lookup, run_underlying Tryz.underlying164, MapKept.run_getObj_map hb, hc, MapKept.run_findKey Tryz.underlying9 hf', Result.andThen]
/-- the table -/
def leastTab : List MapEntry := [⟨.string ⟨#[112, 112, 112, 111, 101]⟩, .int .i64 6, 0⟩, ⟨.string ⟨#[112, 112, 112]⟩, .int .i64 1, 1⟩, ⟨.string ⟨#[108, 108, 99]⟩, .int .i64 3, 2⟩, ⟨.string ⟨#[115, 110, 97, 112]⟩, .int .i64 5, 3⟩, ⟨.string ⟨#[108, 111, 111, 112, 98, 97, 99, 107]⟩, .int .i64 4, 4⟩, ⟨.string ⟨#[108, 105, 110, 117, 120, 115, 108, 108]⟩, .int .i64 16, 5⟩, ⟨.string ⟨#[101, 97, 112, 111, 108]⟩, .int .i64 4, 6⟩, ⟨.string ⟨#[101, 97, 112, 111, 108, 107, 101, 121]⟩, .int .i64 95, 7⟩, ⟨.string ⟨#[101, 97, 112]⟩, .int .i64 4, 8⟩, ⟨.string ⟨#[109, 112, 108, 115]⟩, .int .i64 4, 9⟩, ⟨.string ⟨#[103, 101, 110, 101, 118, 101]⟩, .int .i64 8, 10⟩, ⟨.string ⟨#[103, 116, 112]⟩, .int .i64 8, 11⟩, ⟨.string ⟨#[101, 116, 104, 101, 114, 105, 112]⟩, .int .i64 2, 12⟩, ⟨.string ⟨#[101, 114, 115, 112, 97, 110]⟩, .int .i64 8, 13⟩, ⟨.string ⟨#[117, 100, 112, 108, 105, 116, 101]⟩, .int .i64 8, 14⟩, ⟨.string ⟨#[98, 102, 100]⟩, .int .i64 24, 15⟩, ⟨.string ⟨#[110, 116, 112]⟩, .int .i64 48, 16⟩, ⟨.string ⟨#[118, 114, 114, 112]⟩, .int .i64 8, 17⟩, ⟨.string ⟨#[97, 104]⟩, .int .i64 12, 18⟩, ⟨.string ⟨#[101, 115, 112]⟩, .int .i64 8, 19⟩, ⟨.string ⟨#[105, 103, 109, 112, 49]⟩, .int .i64 8, 20⟩]
theorem tab_laid (w : World) (g : Nat) (h : Mp w g [] 0) : ∃ w1 w2 w3 w4 w5 w6 w7 w8 w9 w10 w11 w12 w13 w14 w15 w16 w17 w18 w19 w20 w21 : World,
    (Instr.mapUpdate 164 (.map (some g)) (.string ⟨#[112, 112, 112, 111, 101]⟩) (.int .i64 6)).run Tryz.prog w = .ok () w1 ∧
    (Instr.mapUpdate 164 (.map (some g)) (.string ⟨#[112, 112, 112]⟩) (.int .i64 1)).run Tryz.prog w1 = .ok () w2 ∧
    (Instr.mapUpdate 164 (.map (some g)) (.string ⟨#[108, 108, 99]⟩) (.int .i64 3)).run Tryz.prog w2 = .ok () w3 ∧
    (Instr.mapUpdate 164 (.map (some g)) (.string ⟨#[115, 110, 97, 112]⟩) (.int .i64 5)).run Tryz.prog w3 = .ok () w4 ∧
    (Instr.mapUpdate 164 (.map (some g)) (.string ⟨#[108, 111, 111, 112, 98, 97, 99, 107]⟩) (.int .i64 4)).run Tryz.prog w4 = .ok () w5 ∧
    (Instr.mapUpdate 164 (.map (some g)) (.string ⟨#[108, 105, 110, 117, 120, 115, 108, 108]⟩) (.int .i64 16)).run Tryz.prog w5 = .ok () w6 ∧
    (Instr.mapUpdate 164 (.map (some g)) (.string ⟨#[101, 97, 112, 111, 108]⟩) (.int .i64 4)).run Tryz.prog w6 = .ok () w7 ∧
    (Instr.mapUpdate 164 (.map (some g)) (.string ⟨#[101, 97, 112, 111, 108, 107, 101, 121]⟩) (.int .i64 95)).run Tryz.prog w7 = .ok () w8 ∧
    (Instr.mapUpdate 164 (.map (some g)) (.string ⟨#[101, 97, 112]⟩) (.int .i64 4)).run Tryz.prog w8 = .ok () w9 ∧
    (Instr.mapUpdate 164 (.map (some g)) (.string ⟨#[109, 112, 108, 115]⟩) (.int .i64 4)).run Tryz.prog w9 = .ok () w10 ∧
    (Instr.mapUpdate 164 (.map (some g)) (.string ⟨#[103, 101, 110, 101, 118, 101]⟩) (.int .i64 8)).run Tryz.prog w10 = .ok () w11 ∧
    (Instr.mapUpdate 164 (.map (some g)) (.string ⟨#[103, 116, 112]⟩) (.int .i64 8)).run Tryz.prog w11 = .ok () w12 ∧
    (Instr.mapUpdate 164 (.map (some g)) (.string ⟨#[101, 116, 104, 101, 114, 105, 112]⟩) (.int .i64 2)).run Tryz.prog w12 = .ok () w13 ∧
    (Instr.mapUpdate 164 (.map (some g)) (.string ⟨#[101, 114, 115, 112, 97, 110]⟩) (.int .i64 8)).run Tryz.prog w13 = .ok () w14 ∧
    (Instr.mapUpdate 164 (.map (some g)) (.string ⟨#[117, 100, 112, 108, 105, 116, 101]⟩) (.int .i64 8)).run Tryz.prog w14 = .ok () w15 ∧
    (Instr.mapUpdate 164 (.map (some g)) (.string ⟨#[98, 102, 100]⟩) (.int .i64 24)).run Tryz.prog w15 = .ok () w16 ∧
    (Instr.mapUpdate 164 (.map (some g)) (.string ⟨#[110, 116, 112]⟩) (.int .i64 48)).run Tryz.prog w16 = .ok () w17 ∧
    (Instr.mapUpdate 164 (.map (some g)) (.string ⟨#[118, 114, 114, 112]⟩) (.int .i64 8)).run Tryz.prog w17 = .ok () w18 ∧
    (Instr.mapUpdate 164 (.map (some g)) (.string ⟨#[97, 104]⟩) (.int .i64 12)).run Tryz.prog w18 = .ok () w19 ∧
    (Instr.mapUpdate 164 (.map (some g)) (.string ⟨#[101, 115, 112]⟩) (.int .i64 8)).run Tryz.prog w19 = .ok () w20 ∧
    (Instr.mapUpdate 164 (.map (some g)) (.string ⟨#[105, 103, 109, 112, 49]⟩) (.int .i64 8)).run Tryz.prog w20 = .ok () w21 ∧
    Mp w21 g leastTab 21 ∧ w.grownBy w21 (some g) := by
  obtain ⟨w1, r1, m1, g1⟩ := ins w g 0 _ ⟨#[112, 112, 112, 111, 101]⟩ (.int .i64 6) h (by kernel_rfl)
  obtain ⟨w2, r2, m2, g2⟩ := ins w1 g 1 _ ⟨#[112, 112, 112]⟩ (.int .i64 1) m1 (by kernel_rfl)
  obtain ⟨w3, r3, m3, g3⟩ := ins w2 g 2 _ ⟨#[108, 108, 99]⟩ (.int .i64 3) m2 (by kernel_rfl)
  obtain ⟨w4, r4, m4, g4⟩ := ins w3 g 3 _ ⟨#[115, 110, 97, 112]⟩ (.int .i64 5) m3 (by kernel_rfl)
  obtain ⟨w5, r5, m5, g5⟩ := ins w4 g 4 _ ⟨#[108, 111, 111, 112, 98, 97, 99, 107]⟩ (.int .i64 4) m4 (by kernel_rfl)
  obtain ⟨w6, r6, m6, g6⟩ := ins w5 g 5 _ ⟨#[108, 105, 110, 117, 120, 115, 108, 108]⟩ (.int .i64 16) m5 (by kernel_rfl)
  obtain ⟨w7, r7, m7, g7⟩ := ins w6 g 6 _ ⟨#[101, 97, 112, 111, 108]⟩ (.int .i64 4) m6 (by kernel_rfl)
  obtain ⟨w8, r8, m8, g8⟩ := ins w7 g 7 _ ⟨#[101, 97, 112, 111, 108, 107, 101, 121]⟩ (.int .i64 95) m7 (by kernel_rfl)
  obtain ⟨w9, r9, m9, g9⟩ := ins w8 g 8 _ ⟨#[101, 97, 112]⟩ (.int .i64 4) m8 (by kernel_rfl)
  obtain ⟨w10, r10, m10, g10⟩ := ins w9 g 9 _ ⟨#[109, 112, 108, 115]⟩ (.int .i64 4) m9 (by kernel_rfl)
  obtain ⟨w11, r11, m11, g11⟩ := ins w10 g 10 _ ⟨#[103, 101, 110, 101, 118, 101]⟩ (.int .i64 8) m10 (by kernel_rfl)
  obtain ⟨w12, r12, m12, g12⟩ := ins w11 g 11 _ ⟨#[103, 116, 112]⟩ (.int .i64 8) m11 (by kernel_rfl)
  obtain ⟨w13, r13, m13, g13⟩ := ins w12 g 12 _ ⟨#[101, 116, 104, 101, 114, 105, 112]⟩ (.int .i64 2) m12 (by kernel_rfl)
  obtain ⟨w14, r14, m14, g14⟩ := ins w13 g 13 _ ⟨#[101, 114, 115, 112, 97, 110]⟩ (.int .i64 8) m13 (by kernel_rfl)
  obtain ⟨w15, r15, m15, g15⟩ := ins w14 g 14 _ ⟨#[117, 100, 112, 108, 105, 116, 101]⟩ (.int .i64 8) m14 (by kernel_rfl)
  obtain ⟨w16, r16, m16, g16⟩ := ins w15 g 15 _ ⟨#[98, 102, 100]⟩ (.int .i64 24) m15 (by kernel_rfl)
  obtain ⟨w17, r17, m17, g17⟩ := ins w16 g 16 _ ⟨#[110, 116, 112]⟩ (.int .i64 48) m16 (by kernel_rfl)
  obtain ⟨w18, r18, m18, g18⟩ := ins w17 g 17 _ ⟨#[118, 114, 114, 112]⟩ (.int .i64 8) m17 (by kernel_rfl)
  obtain ⟨w19, r19, m19, g19⟩ := ins w18 g 18 _ ⟨#[97, 104]⟩ (.int .i64 12) m18 (by kernel_rfl)
  obtain ⟨w20, r20, m20, g20⟩ := ins w19 g 19 _ ⟨#[101, 115, 112]⟩ (.int .i64 8) m19 (by kernel_rfl)
  obtain ⟨w21, r21, m21, g21⟩ := ins w20 g 20 _ ⟨#[105, 103, 109, 112, 49]⟩ (.int .i64 8) m20 (by kernel_rfl)
  exact ⟨w1, w2, w3, w4, w5, w6, w7, w8, w9, w10, w11, w12, w13, w14, w15, w16, w17, w18, w19, w20, w21, r1, r2, r3, r4, r5, r6, r7, r8, r9, r10, r11, r12, r13, r14, r15, r16, r17, r18, r19, r20, r21, m21, (only_trans (only_trans (only_trans (only_trans (only_trans (only_trans (only_trans (only_trans (only_trans (only_trans (only_trans (only_trans (only_trans (only_trans (only_trans (only_trans (only_trans (only_trans (only_trans (only_trans g1 g2) g3) g4) g5) g6) g7) g8) g9) g10) g11) g12) g13) g14) g15) g16) g17) g18) g19) g20) g21)⟩
theorem look_pppoe (w : World) (g : Nat) (h : Mp w g leastTab 21) : (Instr.lookup 164 (.map (some g)) (.string k_pppoe) false).run Tryz.prog w = .ok (.int .i64 6) w := look w g 21 0 leastTab k_pppoe (.int .i64 6) h (by kernel_rfl)
theorem look_ppp (w : World) (g : Nat) (h : Mp w g leastTab 21) : (Instr.lookup 164 (.map (some g)) (.string k_ppp) false).run Tryz.prog w = .ok (.int .i64 1) w := look w g 21 1 leastTab k_ppp (.int .i64 1) h (by kernel_rfl)
theorem look_llc (w : World) (g : Nat) (h : Mp w g leastTab 21) : (Instr.lookup 164 (.map (some g)) (.string k_llc) false).run Tryz.prog w = .ok (.int .i64 3) w := look w g 21 2 leastTab k_llc (.int .i64 3) h (by kernel_rfl)
theorem look_snap (w : World) (g : Nat) (h : Mp w g leastTab 21) : (Instr.lookup 164 (.map (some g)) (.string k_snap) false).run Tryz.prog w = .ok (.int .i64 5) w := look w g 21 3 leastTab k_snap (.int .i64 5) h (by kernel_rfl)
theorem look_loopback (w : World) (g : Nat) (h : Mp w g leastTab 21) : (Instr.lookup 164 (.map (some g)) (.string k_loopback) false).run Tryz.prog w = .ok (.int .i64 4) w := look w g 21 4 leastTab k_loopback (.int .i64 4) h (by kernel_rfl)
theorem look_eapol (w : World) (g : Nat) (h : Mp w g leastTab 21) : (Instr.lookup 164 (.map (some g)) (.string k_eapol) false).run Tryz.prog w = .ok (.int .i64 4) w := look w g 21 6 leastTab k_eapol (.int .i64 4) h (by kernel_rfl)
theorem look_eapolkey (w : World) (g : Nat) (h : Mp w g leastTab 21) : (Instr.lookup 164 (.map (some g)) (.string k_eapolkey) false).run Tryz.prog w = .ok (.int .i64 95) w := look w g 21 7 leastTab k_eapolkey (.int .i64 95) h (by kernel_rfl)
theorem look_eap (w : World) (g : Nat) (h : Mp w g leastTab 21) : (Instr.lookup 164 (.map (some g)) (.string k_eap) false).run Tryz.prog w = .ok (.int .i64 4) w := look w g 21 8 leastTab k_eap (.int .i64 4) h (by kernel_rfl)
theorem look_mpls (w : World) (g : Nat) (h : Mp w g leastTab 21) : (Instr.lookup 164 (.map (some g)) (.string k_mpls) false).run Tryz.prog w = .ok (.int .i64 4) w := look w g 21 9 leastTab k_mpls (.int .i64 4) h (by kernel_rfl)
theorem look_gtp (w : World) (g : Nat) (h : Mp w g leastTab 21) : (Instr.lookup 164 (.map (some g)) (.string k_gtp) false).run Tryz.prog w = .ok (.int .i64 8) w := look w g 21 11 leastTab k_gtp (.int .i64 8) h (by kernel_rfl)
theorem look_erspan (w : World) (g : Nat) (h : Mp w g leastTab 21) : (Instr.lookup 164 (.map (some g)) (.string k_erspan) false).run Tryz.prog w = .ok (.int .i64 8) w := look w g 21 13 leastTab k_erspan (.int .i64 8) h (by kernel_rfl)
theorem look_bfd (w : World) (g : Nat) (h : Mp w g leastTab 21) : (Instr.lookup 164 (.map (some g)) (.string k_bfd) false).run Tryz.prog w = .ok (.int .i64 24) w := look w g 21 15 leastTab k_bfd (.int .i64 24) h (by kernel_rfl)
theorem look_ntp (w : World) (g : Nat) (h : Mp w g leastTab 21) : (Instr.lookup 164 (.map (some g)) (.string k_ntp) false).run Tryz.prog w = .ok (.int .i64 48) w := look w g 21 16 leastTab k_ntp (.int .i64 48) h (by kernel_rfl)
end Go.Proofs.YtphmklgbbpiafaaGreat
