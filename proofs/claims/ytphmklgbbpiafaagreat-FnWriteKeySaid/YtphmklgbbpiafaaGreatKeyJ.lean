/-
  FnWriteKey: whatever the layer and the flag, the law returns true, and its arguments read as they did. No condition.
-/
import Derived.Deep.RegionHeld3
import Derived.Test.YtphmklgbbpiafaaGreatRdA
import Derived.Test.YtphmklgbbpiafaaGreatSrdA
import Derived.Test.YtphmklgbbpiafaaGreatSrdB
import Derived.Test.YtphmklgbbpiafaaGreatRows
import Derived.Test.YtphmklgbbpiafaaGreatRowA
import Derived.Test.YtphmklgbbpiafaaGreatWritB
import Derived.Test.YtphmklgbbpiafaaGreatAliveA
import Derived.Test.YtphmklgbbpiafaaGreatKeyB
import Derived.Test.YtphmklgbbpiafaaGreatKeyR
import Derived.Test.YtphmklgbbpiafaaGreatKeyD
import Derived.Test.YtphmklgbbpiafaaGreatKeyM
import Derived.Test.YtphmklgbbpiafaaGreatKeyE
import Derived.Test.YtphmklgbbpiafaaGreatKeyF
import Derived.Test.YtphmklgbbpiafaaGreatKeyG
import Derived.Test.YtphmklgbbpiafaaGreatBytesM
import Derived.JoinedOf
import Derived.ProofKit
import Derived.Test.YtphmklgbbpiafaaGreatFactA
namespace Go.Proofs.YtphmklgbbpiafaaGreat
open Go Go.RowKit
set_option linter.unusedVariables false
set_option linter.unusedSimpArgs false
attribute [local go_sem] sd_drewN ad_drewN

set_option maxRecDepth 1000000 in
set_option maxHeartbeats 10000000 in
theorem sread_key (xs : List UInt8) (nums : List Nat) (data : List (List UInt8)) (pay : List UInt8) (hF : Srd 49 xs nums data pay) (A : Option Addr) (n c : Nat) (w : World) (hs : Sl w w.heap.size A n (bcs xs)) (h4 : 95 ≤ n) (hnc : n ≤ c) (hn : n ≤ 1000) :
    Calls Tryz.prog 33 #[.string k_eapolkey, .slice A n c] w fun e w' => ∃ v, e = .returned (.tuple #[v, .bool true, .bool true]) ∧ Below w.heap.size w w' ∧ Lyr w' w'.heap.size v nums data pay := by
  refine calls_hid fun R hR => ?_
  have HS := Lib.hid hs
  have HFN := Lib.hid hF
  clear hF
  clear hs
  have hmm := @run_makeMap Tryz.prog
  obtain ⟨w1, w2, w3, w4, w5, w6, w7, w8, w9, w10, w11, w12, w13, w14, w15, w16, w17, w18, w19, w20, w21, r1, r2, r3, r4, r5, r6, r7, r8, r9, r10, r11, r12, r13, r14, r15, r16, r17, r18, r19, r20, r21, hmp, hgm⟩ := tab_laid ((w.alloc (.cells #[.slice none 0 0, .slice none 0 0, .slice none 0 0, .slice none 0 0] 27)).alloc (.map #[] 0)) (w.heap.size + 1) (by simpa using Mp.new (w.alloc (.cells #[.slice none 0 0, .slice none 0 0, .slice none 0 0, .slice none 0 0] 27)))
  have hlk := look_eapolkey w21 _ hmp
  have HGM := Lib.hid hgm
  clear hmp hgm
  have tl : decide ((n : Int) < 95) = false := by simp; omega
  go_enter Tryz.func33, Tryz.ntmps33
  go_wp2_with fail
  have hl : xs.length = n := by rw [← bcs_length]; exact HS.out.1
  have hbe : Below w.heap.size w w21 := (((Below.refl _ w).alloc (Nat.le_refl _) _).alloc (by simp) _).trans (below_of_some HGM.out (by simp; omega) (by omega))
  have hsz : w.heap.size + 2 ≤ w21.heap.size := by have := HGM.out.size; simpa using this
  have hbk : Bk w21 w.heap.size 27 [.slice none 0 0, .slice none 0 0, .slice none 0 0, .slice none 0 0] := ((Bk.new w 27 _).alloc _).grown HGM.out (by simp)
  have HS1 := Lib.hid (HS.out.below hbe)
  have HBE := Lib.hid hbe
  have HL := Lib.hid hl
  have HBK := Lib.hid hbk
  clear hlk r1 r2 r3 r4 r5 r6 r7 r8 r9 r10 r11 r12 r13 r14 r15 r16 r17 r18 r19 r20 r21 hmm hbe hl hbk
  refine (HFN.out A n c w.heap.size (w.heap.size + 1) w21 HS1.out (by omega) (by omega) hnc).mono ?_
  rintro e w3 ⟨v, rfl, hb3, hL3⟩
  obtain ⟨AN, aN, cN, AD, aD, cD, AP, cP, AB, aB, cB, hv⟩ : ∃ AN aN cN AD aD cD AP cP AB aB cB, v = .agg #[.slice AN aN cN, .slice AD aD cD, .slice AP 0 cP, .slice AB aB cB] := by
    obtain ⟨AN, cN, AD, cD, AP, cP, AB, cB, ds, hv, _⟩ := hL3
    exact ⟨_, _, _, _, _, _, _, _, _, _, _, hv⟩
  subst hv
  have hr3 := HBK.out.below hb3 (by omega)
  have k0 := hr3.cell 0
  have k1 := hr3.cell 1
  have k2 := hr3.cell 2
  have k3 := hr3.cell 3
  have f0 := hr3.frozen 0
  have f1 := hr3.frozen 1
  have f2 := hr3.frozen 2
  have f3 := hr3.frozen 3
  simp only [List.getElem?_cons_zero, List.getElem?_cons_succ] at k0 k1 k2 k3
  have HR3 := Lib.hid hr3
  have HB3 := Lib.hid hb3
  have HL3 := Lib.hid hL3
  clear hr3 hb3 hL3
  go_wp2_with fail
  have hfin := read_end (w := w) HL3.out (HBE.out.trans (HB3.out.mono (by omega))) (Nat.le_refl _) (Nat.lt_succ_self _) (Nat.le_refl _)
  obtain ⟨z0, z1, z2, z3⟩ := set4_cells HR3.out (.slice AN aN cN) (.slice AD aD cD) (.slice AP 0 cP) (.slice AB aB cB)
  exact bodyPost_ret (v := .tuple #[.agg #[.slice AN aN cN, .slice AD aD cD, .slice AP 0 cP, .slice AB aB cB], .bool true, .bool true]) (by simp [results, Tryz.results33, go_sem, z0, z1, z2, z3]) rfl (hR.out _ _ ⟨_, rfl, hfin.1, hfin.2.lyr⟩)
end Go.Proofs.YtphmklgbbpiafaaGreat
namespace Go.Proofs.YtphmklgbbpiafaaGreat
open Go Go.RowKit
set_option linter.unusedVariables false
set_option linter.unusedSimpArgs false
attribute [local go_sem] sd_drewN ad_drewN

set_option maxRecDepth 1000000 in
set_option maxHeartbeats 10000000 in
theorem sread_key_no (xs : List UInt8) (hF : SrdNo 49 xs) (A : Option Addr) (n c : Nat) (w : World) (hs : Sl w w.heap.size A n (bcs xs)) (h4 : 95 ≤ n) (hnc : n ≤ c) (hn : n ≤ 1000) :
    Calls Tryz.prog 33 #[.string k_eapolkey, .slice A n c] w fun e w' => e = .returned (.tuple #[.agg #[.slice none 0 0, .slice none 0 0, .slice none 0 0, .slice none 0 0], .bool false, .bool true]) ∧ Below w.heap.size w w' := by
  refine calls_hid fun R hR => ?_
  have HS := Lib.hid hs
  have HFN := Lib.hid hF
  clear hF
  clear hs
  have hmm := @run_makeMap Tryz.prog
  obtain ⟨w1, w2, w3, w4, w5, w6, w7, w8, w9, w10, w11, w12, w13, w14, w15, w16, w17, w18, w19, w20, w21, r1, r2, r3, r4, r5, r6, r7, r8, r9, r10, r11, r12, r13, r14, r15, r16, r17, r18, r19, r20, r21, hmp, hgm⟩ := tab_laid ((w.alloc (.cells #[.slice none 0 0, .slice none 0 0, .slice none 0 0, .slice none 0 0] 27)).alloc (.map #[] 0)) (w.heap.size + 1) (by simpa using Mp.new (w.alloc (.cells #[.slice none 0 0, .slice none 0 0, .slice none 0 0, .slice none 0 0] 27)))
  have hlk := look_eapolkey w21 _ hmp
  have HGM := Lib.hid hgm
  clear hmp hgm
  have tl : decide ((n : Int) < 95) = false := by simp; omega
  go_enter Tryz.func33, Tryz.ntmps33
  go_wp2_with fail
  have hl : xs.length = n := by rw [← bcs_length]; exact HS.out.1
  have hbe : Below w.heap.size w w21 := (((Below.refl _ w).alloc (Nat.le_refl _) _).alloc (by simp) _).trans (below_of_some HGM.out (by simp; omega) (by omega))
  have hsz : w.heap.size + 2 ≤ w21.heap.size := by have := HGM.out.size; simpa using this
  have hbk : Bk w21 w.heap.size 27 [.slice none 0 0, .slice none 0 0, .slice none 0 0, .slice none 0 0] := ((Bk.new w 27 _).alloc _).grown HGM.out (by simp)
  have HS1 := Lib.hid (HS.out.below hbe)
  have HBE := Lib.hid hbe
  have HL := Lib.hid hl
  have HBK := Lib.hid hbk
  clear hlk r1 r2 r3 r4 r5 r6 r7 r8 r9 r10 r11 r12 r13 r14 r15 r16 r17 r18 r19 r20 r21 hmm hbe hl hbk
  refine (HFN.out A n c w.heap.size w21 HS1.out (by omega) hnc).mono ?_
  rintro e w3 ⟨rfl, hb3⟩
  have hr3 := HBK.out.below hb3 (by omega)
  have k0 := hr3.cell 0
  have k1 := hr3.cell 1
  have k2 := hr3.cell 2
  have k3 := hr3.cell 3
  have f0 := hr3.frozen 0
  have f1 := hr3.frozen 1
  have f2 := hr3.frozen 2
  have f3 := hr3.frozen 3
  simp only [List.getElem?_cons_zero, List.getElem?_cons_succ] at k0 k1 k2 k3
  have HR3 := Lib.hid hr3
  have HB3 := Lib.hid hb3
  clear hr3 hb3
  go_wp2_with fail
  obtain ⟨z0, z1, z2, z3⟩ := set4_cells HR3.out (.slice none 0 0) (.slice none 0 0) (.slice none 0 0) (.slice none 0 0)
  have hfb := set4_below (HBE.out.trans (HB3.out.mono (by omega))) w.heap.size (Nat.le_refl _) (.slice none 0 0) (.slice none 0 0) (.slice none 0 0) (.slice none 0 0)
  exact bodyPost_ret (v := .tuple #[.agg #[.slice none 0 0, .slice none 0 0, .slice none 0 0, .slice none 0 0], .bool false, .bool true]) (by simp [results, Tryz.results33, go_sem, z0, z1, z2, z3]) rfl (hR.out _ _ ⟨rfl, hfb⟩)
end Go.Proofs.YtphmklgbbpiafaaGreat
namespace Go.Proofs.YtphmklgbbpiafaaGreat
open Go Go.RowKit Go.ChangeShapes Go.WideShapes Go.ChangeAt Go.Joins
set_option linter.unusedVariables false
set_option linter.unusedSimpArgs false

theorem ser_nil_key (gx : Nat) (W : World) : (nilAhead 390 100 (.pointer (some ⟨gx, 0, none⟩)) "SerializeTo").run Tryz.prog W = .ok (some false) W := by kernel_rfl
theorem ser_method_key (gx : Nat) (W : World) : (method 390 100 (.pointer (some ⟨gx, 0, none⟩)) "SerializeTo").run Tryz.prog W = .ok (151, .pointer (some ⟨gx, 0, none⟩)) W := by kernel_rfl
theorem ser_enter_key (args : Array Value) (W : World) : (callFunc 151 args).run Tryz.prog W = .ok (.enter 151 args) W := by kernel_rfl
theorem rtrue_key (xs : List UInt8) (h4 : 95 ≤ xs.length) (hp : xs.length ≤ 700) : RTrue k_eapolkey xs := by
  have e0 : ((xs.drop 13).take 32).length ≤ 1000 := by rw [List.length_take]; omega
  have e1 : ((xs.drop 45).take 16).length ≤ 1000 := by rw [List.length_take]; omega
  have e2 : ((xs.drop 77).take 16).length ≤ 1000 := by rw [List.length_take]; omega
  have e3 : ((xs.drop 95).take (Lib.beNat ((xs.drop 93).take 2))).length ≤ 1000 := by rw [List.length_take, List.length_drop]; omega
  have p0 : (xs.drop 95).length ≤ 1000 := by rw [List.length_drop]; omega
  have p1 : (xs.drop (95 + Lib.beNat ((xs.drop 93).take 2))).length ≤ 1000 := by rw [List.length_drop]; omega
  rcases Nat.lt_or_ge (xs.length - 95) (Lib.beNat ((xs.drop 93).take 2)) with hd | hd
  · refine read_no k_eapolkey xs alive_ok (fun A n c w hs hnc hA => ?_) (iread_no_any k_eapolkey xs (fun A n c w hs hnc hA => decd_key_no xs hd h4 (by omega) A n c w hs hnc hA (called_key A n c w)))
    have hl := hs.len
    exact sread_key_no xs (srd_key_no xs hd h4 (by omega)) A n c w hs (by omega) hnc (by omega)
  · rcases (show Lib.beNat ((xs.drop 1).take 2) / 4096 % 2 = 0 ∨ Lib.beNat ((xs.drop 1).take 2) / 4096 % 2 = 1 by omega) with h12 | h12
    · refine read_yes k_eapolkey (xs) [(xs.getD 0 0).toNat, Lib.beNat ((xs.drop 1).take 2) % 8, Lib.beNat ((xs.drop 1).take 2) / 8 % 2, Lib.beNat ((xs.drop 1).take 2) / 16 % 4, Lib.beNat ((xs.drop 1).take 2) / 64 % 2, Lib.beNat ((xs.drop 1).take 2) / 128 % 2, Lib.beNat ((xs.drop 1).take 2) / 256 % 2, Lib.beNat ((xs.drop 1).take 2) / 512 % 2, Lib.beNat ((xs.drop 1).take 2) / 1024 % 2, Lib.beNat ((xs.drop 1).take 2) / 2048 % 2, Lib.beNat ((xs.drop 1).take 2) / 4096 % 2, Lib.beNat ((xs.drop 1).take 2) / 8192 % 2, Lib.beNat ((xs.drop 3).take 2), Lib.beNat ((xs.drop 5).take 8), Lib.beNat ((xs.drop 61).take 8), Lib.beNat ((xs.drop 69).take 8), Lib.beNat ((xs.drop 93).take 2)] [(xs.drop 13).take 32, (xs.drop 45).take 16, (xs.drop 77).take 16, []] (xs.drop 95) alive_ok (fun A n c w hs hnc hA => ?_) (fun A n c w hs hnc hA => ?_) (by simp) (by simp)
      · have hl := hs.len
    
        exact sread_key _ [(xs.getD 0 0).toNat, Lib.beNat ((xs.drop 1).take 2) % 8, Lib.beNat ((xs.drop 1).take 2) / 8 % 2, Lib.beNat ((xs.drop 1).take 2) / 16 % 4, Lib.beNat ((xs.drop 1).take 2) / 64 % 2, Lib.beNat ((xs.drop 1).take 2) / 128 % 2, Lib.beNat ((xs.drop 1).take 2) / 256 % 2, Lib.beNat ((xs.drop 1).take 2) / 512 % 2, Lib.beNat ((xs.drop 1).take 2) / 1024 % 2, Lib.beNat ((xs.drop 1).take 2) / 2048 % 2, Lib.beNat ((xs.drop 1).take 2) / 4096 % 2, Lib.beNat ((xs.drop 1).take 2) / 8192 % 2, Lib.beNat ((xs.drop 3).take 2), Lib.beNat ((xs.drop 5).take 8), Lib.beNat ((xs.drop 61).take 8), Lib.beNat ((xs.drop 69).take 8), Lib.beNat ((xs.drop 93).take 2)] [(xs.drop 13).take 32, (xs.drop 45).take 16, (xs.drop 77).take 16, []] (xs.drop 95) (srd_key_pln xs h12 hd h4 (by omega)) A n c w hs (by omega) hnc (by omega)
      · have hl := hs.len
    
        exact iread_key _ (xs.drop 95) _ [(xs.getD 0 0).toNat, Lib.beNat ((xs.drop 1).take 2) % 8, Lib.beNat ((xs.drop 1).take 2) / 8 % 2, Lib.beNat ((xs.drop 1).take 2) / 16 % 4, Lib.beNat ((xs.drop 1).take 2) / 64 % 2, Lib.beNat ((xs.drop 1).take 2) / 128 % 2, Lib.beNat ((xs.drop 1).take 2) / 256 % 2, Lib.beNat ((xs.drop 1).take 2) / 512 % 2, Lib.beNat ((xs.drop 1).take 2) / 1024 % 2, Lib.beNat ((xs.drop 1).take 2) / 2048 % 2, Lib.beNat ((xs.drop 1).take 2) / 4096 % 2, Lib.beNat ((xs.drop 1).take 2) / 8192 % 2, Lib.beNat ((xs.drop 3).take 2), Lib.beNat ((xs.drop 5).take 8), Lib.beNat ((xs.drop 61).take 8), Lib.beNat ((xs.drop 69).take 8), Lib.beNat ((xs.drop 93).take 2)] [(xs.drop 13).take 32, (xs.drop 45).take 16, (xs.drop 77).take 16, []] (dec_key_pln xs h12 hd h4 (by omega)) (told_key ((xs.getD 0 0).toNat) (Lib.beNat ((xs.drop 1).take 2) % 8) (Lib.beNat ((xs.drop 1).take 2) / 8 % 2) (Lib.beNat ((xs.drop 1).take 2) / 16 % 4) (Lib.beNat ((xs.drop 1).take 2) / 64 % 2) (Lib.beNat ((xs.drop 1).take 2) / 128 % 2) (Lib.beNat ((xs.drop 1).take 2) / 256 % 2) (Lib.beNat ((xs.drop 1).take 2) / 512 % 2) (Lib.beNat ((xs.drop 1).take 2) / 1024 % 2) (Lib.beNat ((xs.drop 1).take 2) / 2048 % 2) (Lib.beNat ((xs.drop 1).take 2) / 4096 % 2) (Lib.beNat ((xs.drop 1).take 2) / 8192 % 2) (Lib.beNat ((xs.drop 3).take 2)) (Lib.beNat ((xs.drop 5).take 8)) (Lib.beNat ((xs.drop 61).take 8)) (Lib.beNat ((xs.drop 69).take 8)) (Lib.beNat ((xs.drop 93).take 2)) (UInt8.toNat_lt _) (by omega) (by omega) (by omega) (by omega) (by omega) (by omega) (by omega) (by omega) (by omega) (by omega) (by omega) (beNat_take _ 2) (beNat_take _ 8) (beNat_take _ 8) (beNat_take _ 8) (beNat_take _ 2) ((xs.drop 13).take 32) ((xs.drop 45).take 16) ((xs.drop 77).take 16) ([]) e0 e1 e2 (by simp) (xs.drop 95) p0) A n c w hs hnc hA (by omega) (fun w _ => called_key A n c w)
    · refine read_yes k_eapolkey (xs) [(xs.getD 0 0).toNat, Lib.beNat ((xs.drop 1).take 2) % 8, Lib.beNat ((xs.drop 1).take 2) / 8 % 2, Lib.beNat ((xs.drop 1).take 2) / 16 % 4, Lib.beNat ((xs.drop 1).take 2) / 64 % 2, Lib.beNat ((xs.drop 1).take 2) / 128 % 2, Lib.beNat ((xs.drop 1).take 2) / 256 % 2, Lib.beNat ((xs.drop 1).take 2) / 512 % 2, Lib.beNat ((xs.drop 1).take 2) / 1024 % 2, Lib.beNat ((xs.drop 1).take 2) / 2048 % 2, Lib.beNat ((xs.drop 1).take 2) / 4096 % 2, Lib.beNat ((xs.drop 1).take 2) / 8192 % 2, Lib.beNat ((xs.drop 3).take 2), Lib.beNat ((xs.drop 5).take 8), Lib.beNat ((xs.drop 61).take 8), Lib.beNat ((xs.drop 69).take 8), Lib.beNat ((xs.drop 93).take 2)] [(xs.drop 13).take 32, (xs.drop 45).take 16, (xs.drop 77).take 16, (xs.drop 95).take (Lib.beNat ((xs.drop 93).take 2))] (xs.drop (95 + Lib.beNat ((xs.drop 93).take 2))) alive_ok (fun A n c w hs hnc hA => ?_) (fun A n c w hs hnc hA => ?_) (by simp) (by simp)
      · have hl := hs.len
    
        exact sread_key _ [(xs.getD 0 0).toNat, Lib.beNat ((xs.drop 1).take 2) % 8, Lib.beNat ((xs.drop 1).take 2) / 8 % 2, Lib.beNat ((xs.drop 1).take 2) / 16 % 4, Lib.beNat ((xs.drop 1).take 2) / 64 % 2, Lib.beNat ((xs.drop 1).take 2) / 128 % 2, Lib.beNat ((xs.drop 1).take 2) / 256 % 2, Lib.beNat ((xs.drop 1).take 2) / 512 % 2, Lib.beNat ((xs.drop 1).take 2) / 1024 % 2, Lib.beNat ((xs.drop 1).take 2) / 2048 % 2, Lib.beNat ((xs.drop 1).take 2) / 4096 % 2, Lib.beNat ((xs.drop 1).take 2) / 8192 % 2, Lib.beNat ((xs.drop 3).take 2), Lib.beNat ((xs.drop 5).take 8), Lib.beNat ((xs.drop 61).take 8), Lib.beNat ((xs.drop 69).take 8), Lib.beNat ((xs.drop 93).take 2)] [(xs.drop 13).take 32, (xs.drop 45).take 16, (xs.drop 77).take 16, (xs.drop 95).take (Lib.beNat ((xs.drop 93).take 2))] (xs.drop (95 + Lib.beNat ((xs.drop 93).take 2))) (srd_key_enc xs h12 hd h4 (by omega)) A n c w hs (by omega) hnc (by omega)
      · have hl := hs.len
    
        exact iread_key _ (xs.drop (95 + Lib.beNat ((xs.drop 93).take 2))) _ [(xs.getD 0 0).toNat, Lib.beNat ((xs.drop 1).take 2) % 8, Lib.beNat ((xs.drop 1).take 2) / 8 % 2, Lib.beNat ((xs.drop 1).take 2) / 16 % 4, Lib.beNat ((xs.drop 1).take 2) / 64 % 2, Lib.beNat ((xs.drop 1).take 2) / 128 % 2, Lib.beNat ((xs.drop 1).take 2) / 256 % 2, Lib.beNat ((xs.drop 1).take 2) / 512 % 2, Lib.beNat ((xs.drop 1).take 2) / 1024 % 2, Lib.beNat ((xs.drop 1).take 2) / 2048 % 2, Lib.beNat ((xs.drop 1).take 2) / 4096 % 2, Lib.beNat ((xs.drop 1).take 2) / 8192 % 2, Lib.beNat ((xs.drop 3).take 2), Lib.beNat ((xs.drop 5).take 8), Lib.beNat ((xs.drop 61).take 8), Lib.beNat ((xs.drop 69).take 8), Lib.beNat ((xs.drop 93).take 2)] [(xs.drop 13).take 32, (xs.drop 45).take 16, (xs.drop 77).take 16, (xs.drop 95).take (Lib.beNat ((xs.drop 93).take 2))] (dec_key_enc xs h12 hd h4 (by omega)) (told_key ((xs.getD 0 0).toNat) (Lib.beNat ((xs.drop 1).take 2) % 8) (Lib.beNat ((xs.drop 1).take 2) / 8 % 2) (Lib.beNat ((xs.drop 1).take 2) / 16 % 4) (Lib.beNat ((xs.drop 1).take 2) / 64 % 2) (Lib.beNat ((xs.drop 1).take 2) / 128 % 2) (Lib.beNat ((xs.drop 1).take 2) / 256 % 2) (Lib.beNat ((xs.drop 1).take 2) / 512 % 2) (Lib.beNat ((xs.drop 1).take 2) / 1024 % 2) (Lib.beNat ((xs.drop 1).take 2) / 2048 % 2) (Lib.beNat ((xs.drop 1).take 2) / 4096 % 2) (Lib.beNat ((xs.drop 1).take 2) / 8192 % 2) (Lib.beNat ((xs.drop 3).take 2)) (Lib.beNat ((xs.drop 5).take 8)) (Lib.beNat ((xs.drop 61).take 8)) (Lib.beNat ((xs.drop 69).take 8)) (Lib.beNat ((xs.drop 93).take 2)) (UInt8.toNat_lt _) (by omega) (by omega) (by omega) (by omega) (by omega) (by omega) (by omega) (by omega) (by omega) (by omega) (by omega) (beNat_take _ 2) (beNat_take _ 8) (beNat_take _ 8) (beNat_take _ 8) (beNat_take _ 2) ((xs.drop 13).take 32) ((xs.drop 45).take 16) ((xs.drop 77).take 16) ((xs.drop 95).take (Lib.beNat ((xs.drop 93).take 2))) e0 e1 e2 e3 (xs.drop (95 + Lib.beNat ((xs.drop 93).take 2))) p1) A n c w hs hnc hA (by omega) (fun w _ => called_key A n c w)
theorem kind_key (fix : Bool) : Kind k_eapolkey fix [8, 3, 1, 2, 1, 1, 1, 1, 1, 1, 1, 1, 16, 64, 64, 64, 16] [32, 16, 16, 0] (fun nums data _ => (nums.getD 10 0) = 0 ∧ (data.getD 3 []).length = 0 ∨ (nums.getD 10 0) = 1 ∧ (nums.getD 16 0) = (data.getD 3 []).length) outKey := by
  refine ⟨wid_eapolkey, by decide, by decide, by decide, fun i hi => ?_, fun i hi => ?_, swrite_key fix, ?_, ?_⟩
  · match i, hi with
    | 0, _ => decide
    | 1, _ => decide
    | 2, _ => decide
    | 3, _ => decide
    | 4, _ => decide
    | 5, _ => decide
    | 6, _ => decide
    | 7, _ => decide
    | 8, _ => decide
    | 9, _ => decide
    | 10, _ => decide
    | 11, _ => decide
    | 12, _ => decide
    | 13, _ => decide
    | 14, _ => decide
    | 15, _ => decide
    | 16, _ => decide
    | k + 17, hk => exact absurd hk (by simp only [List.length_cons, List.length_nil]; omega)
  · match i, hi with
    | 0, _ => decide
    | 1, _ => decide
    | 2, _ => decide
    | 3, _ => decide
  · intro nums data pay hf hc
    have hn := hf.nN
    have hd := hf.nD
    match nums, hn, data, hd with
    | [n0, n1, n2, n3, n4, n5, n6, n7, n8, n9, n10, n11, n12, n13, n14, n15, n16], _, [d0, d1, d2, d3], _ =>
    have h0 : n0 < 256 := hf.num 0 (by decide)
    have h1 : n1 < 8 := hf.num 1 (by decide)
    have h2 : n2 < 2 := hf.num 2 (by decide)
    have h3 : n3 < 4 := hf.num 3 (by decide)
    have h4 : n4 < 2 := hf.num 4 (by decide)
    have h5 : n5 < 2 := hf.num 5 (by decide)
    have h6 : n6 < 2 := hf.num 6 (by decide)
    have h7 : n7 < 2 := hf.num 7 (by decide)
    have h8 : n8 < 2 := hf.num 8 (by decide)
    have h9 : n9 < 2 := hf.num 9 (by decide)
    have h10 : n10 < 2 := hf.num 10 (by decide)
    have h11 : n11 < 2 := hf.num 11 (by decide)
    have h12 : n12 < 65536 := hf.num 12 (by decide)
    have h13 : n13 < 18446744073709551616 := hf.num 13 (by decide)
    have h14 : n14 < 18446744073709551616 := hf.num 14 (by decide)
    have h15 : n15 < 18446744073709551616 := hf.num 15 (by decide)
    have h16 : n16 < 65536 := hf.num 16 (by decide)
    have hd0 : d0.length = 32 := (hf.dat 0 (by decide)).1 (by decide)
    have hd1 : d1.length = 16 := (hf.dat 1 (by decide)).1 (by decide)
    have hd2 : d2.length = 16 := (hf.dat 2 (by decide)).1 (by decide)
    have hd3 : d3.length ≤ 300 := (hf.dat 3 (by decide)).2
    have hp := hf.pay
    intro v w hv
    exact iwrite_any k_eapolkey 100 151 fix [n0, n1, n2, n3, n4, n5, n6, n7, n8, n9, n10, n11, n12, n13, n14, n15, n16] [d0, d1, d2, d3] pay _ _ (fun v w hv => made_key n0 n1 n2 n3 n4 n5 n6 n7 n8 n9 n10 n11 n12 n13 n14 n15 n16 h0 h1 h2 h3 h4 h5 h6 h7 h8 h9 h10 h11 h12 h13 h14 h15 h16 d0 d1 d2 d3 hd0 hd1 hd2 hd3 v pay w hv) (ser_key n0 n1 n2 n3 n4 n5 n6 n7 n8 n9 n10 n11 n12 n13 n14 n15 n16 d0 d1 d2 d3 h0 h1 h2 h3 h4 h5 h6 h7 h8 h9 h10 h11 h12 h13 h14 h15 h16 hd3 fix false pay hf.pay) ser_nil_key ser_method_key ser_enter_key
      (by simp) (fun k => by match k with
        | 0 => simp; omega
        | 1 => simp; omega
        | 2 => simp; omega
        | 3 => exact hd3
        | k + 4 => simp) hf.pay (by simp [keyHdr, Lib.beBytes_length]; omega) v w hv
  · intro nums data pay hf hc
    have hn := hf.nN
    have hd := hf.nD
    match nums, hn, data, hd with
    | [n0, n1, n2, n3, n4, n5, n6, n7, n8, n9, n10, n11, n12, n13, n14, n15, n16], _, [d0, d1, d2, d3], _ =>
    have h0 : n0 < 256 := hf.num 0 (by decide)
    have h1 : n1 < 8 := hf.num 1 (by decide)
    have h2 : n2 < 2 := hf.num 2 (by decide)
    have h3 : n3 < 4 := hf.num 3 (by decide)
    have h4 : n4 < 2 := hf.num 4 (by decide)
    have h5 : n5 < 2 := hf.num 5 (by decide)
    have h6 : n6 < 2 := hf.num 6 (by decide)
    have h7 : n7 < 2 := hf.num 7 (by decide)
    have h8 : n8 < 2 := hf.num 8 (by decide)
    have h9 : n9 < 2 := hf.num 9 (by decide)
    have h10 : n10 < 2 := hf.num 10 (by decide)
    have h11 : n11 < 2 := hf.num 11 (by decide)
    have h12 : n12 < 65536 := hf.num 12 (by decide)
    have h13 : n13 < 18446744073709551616 := hf.num 13 (by decide)
    have h14 : n14 < 18446744073709551616 := hf.num 14 (by decide)
    have h15 : n15 < 18446744073709551616 := hf.num 15 (by decide)
    have h16 : n16 < 65536 := hf.num 16 (by decide)
    have hd0 : d0.length = 32 := (hf.dat 0 (by decide)).1 (by decide)
    have hd1 : d1.length = 16 := (hf.dat 1 (by decide)).1 (by decide)
    have hd2 : d2.length = 16 := (hf.dat 2 (by decide)).1 (by decide)
    have hd3 : d3.length ≤ 300 := (hf.dat 3 (by decide)).2
    have hp := hf.pay
    have hl : (outKey [n0, n1, n2, n3, n4, n5, n6, n7, n8, n9, n10, n11, n12, n13, n14, n15, n16] [d0, d1, d2, d3] pay).length = 95 + d3.length + pay.length := by simp [outKey, keyHdr, Lib.beBytes_length]; omega
    exact rtrue_key _ (by omega) (by omega)

set_option maxRecDepth 100000 in
set_option maxHeartbeats 4000000 in
theorem walk_key (AN AD AP AB : Option Addr) (cN cD nP cP cB : Nat) (ds : List Value) (nums : List Nat) (data : List (List UInt8)) (pay : List UInt8) (fix : Bool) (w : World)
    (hN : Sl w w.heap.size AN nums.length (ncs nums)) (hD : Sl w w.heap.size AD data.length ds) (hE : Each w w.heap.size ds data) (hP : AnyP w w.heap.size AP nP) (hB : Sl w w.heap.size AB pay.length (bcs pay))
    (hn64 : ∀ i, nums.getD i 0 < 2 ^ 64) (hdl : ∀ i, (data.getD i []).length ≤ maxLen) :
    Calls Tryz.prog 11 #[.agg #[.slice AN nums.length cN, .slice AD data.length cD, .slice AP nP cP, .slice AB pay.length cB], .bool fix] w fun e w' => e = .returned (.bool true) ∧ Below w.heap.size w w' := by
  refine calls_hid fun R hR => ?_
  have hv : AnyL w w.heap.size (.agg #[.slice AN nums.length cN, .slice AD data.length cD, .slice AP nP cP, .slice AB pay.length cB]) nums data nP pay := ⟨AN, cN, AD, cD, AP, cP, AB, cB, ds, rfl, hN, hD, hE, hB⟩
  have hAD : AnyD w w.heap.size AD data.length := fun h0 => by
    obtain ⟨g, o, rfl, hg, _⟩ := hD.2 h0
    refine ⟨g, o, rfl, hg, fun i hi => ?_⟩
    obtain ⟨P, c, h1, _⟩ := hD.each hE hi rfl
    exact ⟨P, _, c, h1⟩
  have HV := Lib.hid hv
  have HAD := Lib.hid hAD
  have HP := Lib.hid hP
  have HN := Lib.hid hn64
  have HDL := Lib.hid hdl
  clear hN hD hE hP hB hv hAD hn64 hdl
  go_enter Tryz.func11, Tryz.ntmps11
  go_wp2_with fail
  obtain ⟨W, hW⟩ : ∃ W, W = w.alloc (.cells #[.slice AN nums.length cN, .slice AD data.length cD, .slice AP nP cP, .slice AB pay.length cB] 27) := ⟨_, rfl⟩
  rw [← hW]
  have hbk : Bk W w.heap.size 27 [.slice AN nums.length cN, .slice AD data.length cD, .slice AP nP cP, .slice AB pay.length cB] := by rw [hW]; exact Bk.new _ _ _
  have hbe : Below w.heap.size w W := by rw [hW]; exact (Below.refl _ _).alloc (Nat.le_refl _) _
  clear hW
  refine (zf1 AN AD AP AB _ cN _ cD nP cP _ cB W ((HAD.out.below hbe).more hbe.size) ((HP.out.below hbe).more hbe.size)).mono ?_
  rintro e w1 ⟨⟨b, rfl⟩, hb1⟩
  have hbw : Below w.heap.size w w1 := hbe.trans (hb1.mono hbe.size)
  have hk1 := hbk.below hb1 hbk.lt
  have k0 := hk1.cell 0
  have k1 := hk1.cell 1
  have k2 := hk1.cell 2
  have k3 := hk1.cell 3
  simp only [List.getElem?_cons_zero, List.getElem?_cons_succ] at k0 k1 k2 k3
  have hv1 : AnyL w1 w1.heap.size (.agg #[.slice AN nums.length cN, .slice AD data.length cD, .slice AP nP cP, .slice AB pay.length cB]) nums data nP pay := by
    obtain ⟨AN, cN, AD, cD, AP, cP, AB, cB, ds, hv, h1, h2, h3, h4⟩ := HV.out
    exact ⟨AN, cN, AD, cD, AP, cP, AB, cB, ds, hv, (h1.below hbw).more hbw.size, (h2.below hbw).more hbw.size, (h3.below hbw).more hbw.size, (h4.below hbw).more hbw.size⟩
  have HBW := Lib.hid hbw
  have HV1 := Lib.hid hv1
  clear hbk hbe hb1 hbw hk1 hv1
  cases b
  · go_wp2_with fail
    exact hR.out _ _ ⟨rfl, HBW.out⟩
  · go_wp2_with fail
    refine (written_any (kind_key fix) alive_ok _ nums data nP pay w1 HV1.out HN.out HDL.out).mono ?_
    rintro e w2 ⟨rfl, hb2⟩
    go_wp2_with fail
    exact hR.out _ _ ⟨rfl, HBW.out.trans (hb2.mono HBW.out.size)⟩

theorem own_key : ownKnob Tryz.prog.godebug = none := by kernel_rfl
theorem laidOut_key : laidOutB Tryz.prog = true := by kernel_rfl
set_option maxRecDepth 100000 in
theorem lifted_key (os : Os) (started : os.Started) (H : Type) (enc : TypeId × Value → H) :
    ReturnsInHanded {} Tryz.checked os 11 .any (Rows.fnWriteKeySpec.pre6 enc Tryz.prog Tryz.f11 Rows.fnWriteKeyRow.domain false) (Rows.fnWriteKeySpec.post enc Tryz.prog Tryz.f11 false true false false) := by
  refine returnsInHanded_of_change (C := Tryz.checked) own_key started (by kernel_rfl) Tryz.func11
    (ChangeSpec.witness6 (enc := enc) (C := Tryz.checked) false ⟨#[], #[.agg #[.slice none 0 0, .slice none 0 0, .slice none 0 0, .slice none 0 0], .bool false], []⟩ 8 (by kernel_rfl) (by kernel_rfl) (by kernel_rfl) (by kernel_rfl)) ?_
  intro W base args ds gs before hval0 hW hcnd _
  have hval : ∀ (j : Nat) t v, Tryz.f11.params[j]? = some t → args[j]? = some v → Value.okWide Tryz.prog W .any base t v := hval0
  have hW' := hW
  obtain ⟨p, q, hA0, hV, rfl, hfz, hnd⟩ := hW
  have hA : DataW.TrodAll enc Tryz.prog W 0 (fun _ => true) true Tryz.f11.params.toList args.toList ds p := hA0
  rw [Tryz.params11] at hA hval
  obtain ⟨v0, vs0, d0, ds0, p0, q0, hargs, rfl, rfl, h0, r0⟩ := trodAll_cons hA
  obtain ⟨v1, vs1, d1, ds1, p1, q1, rfl, rfl, rfl, h1, r1⟩ := trodAll_cons r0
  obtain ⟨rfl, rfl, rfl⟩ := trodAll_nil r1
  obtain rfl : args = #[v0, v1] := by cases args; simp_all
  obtain ⟨rfl, rfl⟩ := trodVars_none hV
  have k0 := h0
  have lt0 : ∀ x ∈ p0, x.block < W.heap.size := by obtain ⟨m, hm⟩ := k0; exact DataW.trod_lt m _ _ _ hm
  obtain ⟨c0, c1, c2, c3, y0, y1, y2, y3, m, rfl, _, _, g0, g1, g2, g3⟩ := open_agg4 Tryz.underlying27 (by kernel_rfl) cells27 (hval 0 27 v0 rfl rfl) h0
  obtain ⟨AN, nN, cN, nums, rfl, rfl, _, hn64, hN⟩ := open_nums g0
  obtain ⟨AD, nD, cD, dss, data, rfl, rfl, _, hdl, hD, hE⟩ := open_data g1
  obtain ⟨AP, nP, cP, rfl, hP⟩ := open_parts g2
  obtain ⟨AB, nB, cB, pay, rfl, rfl, _, hB⟩ := open_bytes g3
  obtain ⟨x, rfl, rfl, rfl⟩ := open_bool Tryz.underlying4 (hval 1 4 v1 rfl rfl) h1
  clear hA0 hval0
  refine (walk_key AN AD AP AB cN cD nP cP cB dss nums data pay x W hN hD hE hP hB hn64 hdl).mono fun e W' ⟨he, bel⟩ => ?_
  subst he
  exact ⟨_, rfl, _, _, _, [], _, [], hW', trodAll_mk1 (shut_bool Tryz.underlying4 _), (trodAll_cons_mk (Below.trod laidOut_key (by kernel_rfl) (of_decide_eq_true (by kernel_rfl)) k0 bel lt0) (trodAll_cons_mk (shut_bool Tryz.underlying4 x) trodAll_mk0)), rfl, bel.frame _, fun h => by cases h⟩

end Go.Proofs.YtphmklgbbpiafaaGreat
namespace Go.Proofs.YtphmklgbbpiafaaGreat
open Go
set_option linter.unusedSimpArgs false

theorem fact1_key : (Rows.fnWriteKeyRow.inPlace == Tryz.prog.inPlace 11) = true := by kernel_rfl
theorem fact2_key : (Rows.fnWriteKeyRow.unfollowed == Tryz.prog.unfollowed 11) = true := by kernel_rfl
theorem fact3_key : (Rows.fnWriteKeyRow.recurses == Tryz.prog.recurses 11) = true := by kernel_rfl
theorem fact4_key : (Rows.fnWriteKeyRow.named == Tryz.prog.varsNamed 11) = true := by kernel_rfl
theorem fact5_key : namedTie Tryz.prog Rows.fnWriteKeyRow.named Rows.fnWriteKeySpec.vars = true := by kernel_rfl
theorem fact6_key : (Rows.fnWriteKeyRow.plainKeys == Tryz.prog.plainKeys) = true := gfact4
theorem fact7_key : (Rows.fnWriteKeyRow.lifted == Tryz.prog.liftsFinal) = true := gfact7
theorem fact8_key : (Tryz.prog.make == some Rows.fnWriteKeyRow.make) = true := gfact8
theorem closed_key : joinedFacts Tryz.prog 11 Tryz.f11 Rows.fnWriteKeySpec Rows.fnWriteKeyRow = true := by
  unfold joinedFacts
  rw [fact1_key, fact2_key, fact3_key, fact4_key, fact5_key, fact6_key, fact7_key, fact8_key, gfact1, gfact2, gfact3, gfact5, gfact6, gfact9]
  simp only [Bool.and_true, Bool.true_and]
  kernel_rfl
/-- FnWriteKey returns true at every layer and flag. -/
theorem proved_key : Rows.FnWriteKeySaid :=
  OpenClaim.holds_of_wide 11 Tryz.f11 rfl rfl rfl rfl rfl rfl rfl ⟨rfl, rfl, rfl, rfl, rfl⟩ rfl rfl rfl rfl rfl (by kernel_rfl) Tryz.func11 closed_key
    (of_decide_eq_true (by kernel_rfl)) (by unfold Func.isWrapper; first | (rw [if_pos (by decide +kernel)]; kernel_rfl) | (rw [if_neg (by decide +kernel)]; exact ⟨rfl, rfl⟩))
    (fun os started H enc _ => lifted_key os started H enc)
#print axioms proved_key
end Go.Proofs.YtphmklgbbpiafaaGreat
