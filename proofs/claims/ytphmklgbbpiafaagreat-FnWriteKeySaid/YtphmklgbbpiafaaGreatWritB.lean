/-
  impl.Write of a layer that can be made and serialized. No condition.
-/
import Derived.Test.YtphmklgbbpiafaaGreatWritA
import Derived.Test.YtphmklgbbpiafaaGreatSameA
namespace Go.Proofs.YtphmklgbbpiafaaGreat
open Go Go.RowKit
set_option linter.unusedVariables false
set_option linter.unusedSimpArgs false
attribute [local go_sem] sd_drewN ad_drewN

set_option maxRecDepth 100000 in
theorem newbuf (w : World) : Calls Tryz.prog 31 #[] w fun e w' => e = .returned (.iface 160 (.pointer (some ⟨w.heap.size, 0, none⟩))) ∧ w' = w.alloc (.cells [.slice none 0 0, .int .i64 0, .int .i64 0, .int .i64 0, .slice none 0 0].toArray 163) := by
  refine calls_hid fun R hR => ?_
  go_enter Tryz.func31, Tryz.ntmps31
  go_wp2
  exact hR.out _ _ ⟨rfl, rfl⟩
theorem nil_bytes (gb : Nat) (W : World) : (nilAhead 390 160 (.pointer (some ⟨gb, 0, none⟩)) "Bytes").run Tryz.prog W = .ok (some false) W := by kernel_rfl
theorem method_bytes (gb : Nat) (W : World) : (method 390 160 (.pointer (some ⟨gb, 0, none⟩)) "Bytes").run Tryz.prog W = .ok (176, .pointer (some ⟨gb, 0, none⟩)) W := by kernel_rfl
theorem grown_below' {w w' : World} {g B : Nat} (h : w.grownBy w' (some g)) (hB : B ≤ w.heap.size) (hg : B ≤ g := by simp) : Below B w w' := below_of_some h hB hg
/-- AppendBytes of a fresh buffer. -/
theorem append_first (gb num : Nat) (L : Value) (w : World) (hb : Bk w gb 163 [.slice none 0 0, .int .i64 0, .int .i64 0, .int .i64 0, L]) (hnum2 : num ≤ 4000) :
    Calls Tryz.prog 175 #[.pointer (some ⟨gb, 0, none⟩), .int .i64 num] w fun e w' => ∃ (A D : Option Addr) (c a : Nat), e = .returned (.tuple #[.slice A num c, .nilIface]) ∧
      ((num = 0 ∧ D = none) ∨ ∃ g, A = some ⟨g, 0, none⟩ ∧ D = some ⟨g, 0, none⟩ ∧ Bk w' g 5 (zs num) ∧ w.heap.size ≤ g ∧ c = num) ∧
      Bk w' gb 163 [.slice D num num, .int .i64 0, .int .i64 0, .int .i64 a, L] ∧ (a = 0 ∨ a = num) ∧ w.grownBy w' (some gb) := by
  rcases Nat.eq_zero_or_pos num with rfl | hnum
  · refine (append_zero gb 0 none _ _ _ L w hb (by omega)).mono ?_
    rintro e w' ⟨A, c, rfl, h1, h2⟩
    exact ⟨A, none, c, 0, rfl, .inl ⟨rfl, rfl⟩, h1, .inl rfl, h2⟩
  · refine (append_pos gb 0 num none [] _ L w hb (.inl ⟨rfl, rfl, rfl⟩) (by simp) (by omega) hnum hnum2).mono ?_
    rintro e w' ⟨g, rfl, hg, h1, h2, h3⟩
    rw [Nat.zero_add] at h2
    exact ⟨some ⟨g, 0, none⟩, some ⟨g, 0, none⟩, num, num, rfl, .inr ⟨g, rfl, rfl, h1, hg, rfl⟩, h2, .inr rfl, h3⟩
/-- 'copy(p, payload)' into what AppendBytes has handed out. -/
theorem wpList_copy_pay {w : World} {ops : Array Oper} {rest : List Oper} {o : Oper} {a : Act} {Q : Exit → Act → World → Prop} (hgd : o.guard = none) (d s : Operand)
    (ho : o.op = .call { callee := .builtin .copy, args := #[d, s], argTypes := #[25, 25] })
    (A D : Option Addr) (num c B base cS : Nat) (sp : Option Addr) (pay : List UInt8) (hd : a.eval d = .slice A num c) (hs : a.eval s = .slice sp num cS)
    (hA : (num = 0 ∧ D = none) ∨ ∃ g, A = some ⟨g, 0, none⟩ ∧ D = some ⟨g, 0, none⟩ ∧ Bk w g 5 (zs num) ∧ base ≤ g ∧ c = num) (hX : Sl w B sp num (bcs pay))
    (h : ∀ w', Dat w' D num (bcs pay) → (∃ row, w.grownBy w' row ∧ ∀ k, row = some k → base ≤ k ∧ ∃ cs, Bk w k 5 cs) → wpList Tryz.prog ops Q rest (a.put o.dst (goInt num)) w') : wpList Tryz.prog ops Q (o :: rest) a w := by
  rcases hA with ⟨rfl, rfl⟩ | ⟨g, rfl, rfl, hg, hbase, rfl⟩
  · have e : bcs pay = [] := List.eq_nil_of_length_eq_zero hX.1
    refine wpList_copy_nothing hgd d s 25 25 ho 5 Tryz.underlying25 size5 A sp 0 c 0 cS hd hs rfl (h w (.inl ⟨rfl, e, rfl⟩) ⟨none, grownBy_refl' _ _, by simp⟩)
  · refine wpList_copy_bk hgd d s 25 ho Tryz.underlying25 size5 g 0 c c B c cS sp (zs c) pay hd hs hg hX (Nat.le_refl _) (by simp [zs_length]) (fun w' h1 h2 => h w' (.inr ⟨g, rfl, ?_, hX.1⟩) ⟨some g, h2, by rintro _ ⟨⟩; exact ⟨hbase, _, hg⟩⟩)
    have e : splice (zs c) 0 (bcs pay) = bcs pay := by
      have := splice_front 0 c (bcs pay) hX.1
      simpa [zs] using this
    rw [e] at h1
    exact h1
/-- What made makes of a layer. -/
def Made (S : ByteArray) (Tp : TypeId) (nums : List Nat) (data : List (List UInt8)) (pay : List UInt8) (M : World → Nat → Nat → Prop) : Prop :=
  ∀ (v : Value) (w : World), Lyr w w.heap.size v nums data pay → Calls Tryz.prog 30 #[.string S, v] w fun e w' => ∃ gx, e = .returned (.iface Tp (.pointer (some ⟨gx, 0, none⟩))) ∧ Below w.heap.size w w' ∧ w.heap.size ≤ gx ∧
    ∀ w2 gb, Below w'.heap.size w' w2 → w'.heap.size ≤ gb → M w2 gx gb
theorem Each.at_ {w : World} {B : Nat} {ds : List Value} {data : List (List UInt8)} (he : Each w B ds data) {k : Nat} (hk : k < data.length) :
    ∃ A c, ds[k]? = some (.slice A (data.getD k []).length c) := by
  obtain ⟨A, c, h1, _⟩ := he.2 k (data.getD k []) (by simp [List.getD, List.getElem?_eq_getElem hk])
  exact ⟨A, c, h1⟩

set_option maxRecDepth 100000 in
set_option maxHeartbeats 4000000 in
theorem iwrite_any (S : ByteArray) (Tp : TypeId) (f : FuncId) (fix : Bool) (nums : List Nat) (data : List (List UInt8)) (pay hdr : List UInt8) (M : World → Nat → Nat → Prop)
    (hmade : Made S Tp nums data pay M) (hser : Ser f fix false pay hdr M)
    (hnil : ∀ gx W, (nilAhead 390 Tp (.pointer (some ⟨gx, 0, none⟩)) "SerializeTo").run Tryz.prog W = .ok (some false) W)
    (hmeth : ∀ gx W, (method 390 Tp (.pointer (some ⟨gx, 0, none⟩)) "SerializeTo").run Tryz.prog W = .ok (f, .pointer (some ⟨gx, 0, none⟩)) W)
    (hent : ∀ args W, (callFunc f args).run Tryz.prog W = .ok (.enter f args) W)
    (hd : data.length ≤ 100) (hdl : ∀ k, (data.getD k []).length ≤ 300) (hp : pay.length ≤ 300) (hh : hdr.length ≤ 1000) (v : Value) (w : World) (hv : Lyr w w.heap.size v nums data pay) :
    Calls Tryz.prog 22 #[.string S, v, .bool fix, .bool false] w fun e w' => ∃ A n c, e = .returned (.tuple #[.slice A n c, .bool true]) ∧ Below w.heap.size w w' ∧ Sl w' w'.heap.size A n (bcs (hdr ++ pay)) := by
  refine calls_hid fun R hR => ?_
  have hv' := hv
  obtain ⟨AN, cN, AD, cD, AP, cP, AB, cB, ds, rfl, hN, hD, hE, hP⟩ := hv
  have HV := Lib.hid hv'
  have HN := Lib.hid hN
  have HD := Lib.hid hD
  have HE := Lib.hid hE
  have HP := Lib.hid hP
  have HM := Lib.hid hmade
  have HSER := Lib.hid hser
  have HNIL := Lib.hid hnil
  have HMETH := Lib.hid hmeth
  have HDL := Lib.hid hdl
  have HENT := Lib.hid hent
  clear hv' hN hD hE hP hmade hser hnil hmeth hdl hent
  have t1 : decide ((2000 : Int) < (pay.length : Int)) = false := by simp; omega
  go_enter Tryz.func22, Tryz.ntmps22
  go_wp2_with fail
  obtain ⟨W, hW⟩ : ∃ W, W = w.alloc (.cells [.slice AN nums.length cN, .slice AD data.length cD, .slice AP 0 cP, .slice AB pay.length cB].toArray 27) := ⟨_, rfl⟩
  have hbk : Bk W w.heap.size 27 [.slice AN nums.length cN, .slice AD data.length cD, .slice AP 0 cP, .slice AB pay.length cB] := by rw [hW]; exact Bk.new _ _ _
  have hbe : Below w.heap.size w W := by rw [hW]; exact (Below.refl _ _).alloc (Nat.le_refl _) _
  have hsz : W.heap.size = w.heap.size + 1 := by rw [hW]; simp
  rw [List.toArray_cons] at hW
  rw [show w.alloc (.cells #[.slice AN nums.length cN, .slice AD data.length cD, .slice AP 0 cP, .slice AB pay.length cB] 27) = W from hW.symm]
  clear hW
  have HBK := Lib.hid hbk
  have HBE := Lib.hid hbe
  have HSZ := Lib.hid hsz
  have b0 := hbk.cell 0
  have b1 := hbk.cell 1
  have b2 := hbk.cell 2
  have b3 := hbk.cell 3
  simp only [List.getElem?_cons_zero, List.getElem?_cons_succ] at b0 b1 b2 b3
  clear hbk hbe hsz
  go_loop [32] (fun i => ∃ k : Nat, k ≤ data.length ∧ i = .int .i64 k) (fun i => data.length - (intOf i).toNat)
  case atStart => exact ⟨0, by omega, rfl⟩
  case round =>
    obtain ⟨k, hk, rfl⟩ := hrel
    by_cases hlt : k < data.length
    · obtain ⟨g, o, rfl, _, _⟩ := HD.out.2 (by omega)
      obtain ⟨P1, p1, c1, _⟩ := (HD.out.below HBE.out).each (HE.out.below HBE.out) hlt rfl
      have hl := HDL.out k
      generalize (data.getD k []).length = m at *
      have t2 : decide ((2000 : Int) < (m : Int)) = false := by simp; omega
      go_wp2_with fail
      go_round
      case rel => exact ⟨k + 1, by omega, by go_num⟩
      case measure => simp [intOf]; omega
    · obtain rfl : k = data.length := by omega
      go_wp2_with fail
      refine wp_loop_rounds 1 ?_
      rw [rounds_succ]
      go_wp2_with fail
      refine (HM.out _ W ((HV.out.below HBE.out).more HBE.out.size)).mono ?_
      rintro e w1 ⟨gx, rfl, hb1, hgx, hM⟩
      have HB1 := Lib.hid hb1
      have HMM := Lib.hid hM
      have nx := HNIL.out gx
      have mx := HMETH.out gx
      clear hb1 hM
      go_wp2_with fail
      refine (newbuf w1).mono ?_
      rintro e w2 ⟨rfl, rfl⟩
      have hlo := HBK.out.lt
      have h3 := ((HBK.out.below HB1.out hlo).alloc (.cells [.slice none 0 0, .int .i64 0, .int .i64 0, .int .i64 0, .slice none 0 0].toArray 163)).cell 3
      simp only [List.getElem?_cons_zero, List.getElem?_cons_succ] at h3
      have hs1 := HB1.out.size
      have na := nil_append w1.heap.size
      have ma := method_append w1.heap.size
      have nb := nil_bytes w1.heap.size
      have mb := method_bytes w1.heap.size
      clear b0 b1 b2 b3
      go_wp2_with fail
      have hbf : Bk (w1.alloc (.cells [.slice none 0 0, .int .i64 0, .int .i64 0, .int .i64 0, .slice none 0 0].toArray 163)) w1.heap.size 163 [.slice none 0 0, .int .i64 0, .int .i64 0, .int .i64 0, .slice none 0 0] := Bk.new _ _ _
      refine (append_first w1.heap.size pay.length _ _ hbf (by omega)).mono ?_
      rintro e w3 ⟨A, D, c, a, rfl, hA, hb3, ha, hg3⟩
      have hbe3 : Below w1.heap.size w1 w3 := ((Below.refl _ w1).alloc (Nat.le_refl _) _).trans (grown_below' hg3 (by simp))
      have hs3 := hbe3.size
      have h3 := ((HBK.out.below HB1.out hlo).below hbe3 (by have := HB1.out.size; omega)).cell 3
      simp only [List.getElem?_cons_zero, List.getElem?_cons_succ] at h3
      have hP3 : Sl w3 w.heap.size AB pay.length (bcs pay) := ((HP.out.below HBE.out).below (HB1.out.mono (by have := HBE.out.size; omega))).below (hbe3.mono (by have := HBE.out.size; omega))
      have HAA := Lib.hid hA
      have HB3 := Lib.hid hb3
      have HG3 := Lib.hid hg3
      have HBE3 := Lib.hid hbe3
      have HP3 := Lib.hid hP3
      clear hA hb3 hg3 hbe3 hP3 hbf
      have hen := HENT.out
      go_wp2_with (refine wpList_copy_pay rfl (.tmp 68) (.tmp 70) rfl A D pay.length c w.heap.size (w1.heap.size + 1) cB AB pay rfl rfl (by simpa using HAA.out) HP3.out ?_; intro w4 hdat ⟨row, hg4, hrow⟩)
      have hb4 : Bk w4 w1.heap.size 163 [.slice D pay.length pay.length, .int .i64 0, .int .i64 0, .int .i64 a, .slice none 0 0] := HB3.out.grown hg4 (fun e => by have := (hrow _ e.symm).1; omega)
      have hbe4 : Below w1.heap.size w1 w4 := HBE3.out.trans (below_of hg4 hs3 (fun g e => by have := (hrow g e).1; omega))
      have HD4 := Lib.hid hdat
      have HB4 := Lib.hid hb4
      have HBE4 := Lib.hid hbe4
      clear hdat hg4 hrow hb4 hbe4
      have hgx2 : w.heap.size ≤ gx := by have := HBE.out.size; omega
      refine (HSER.out gx w1.heap.size a D (.slice none 0 0) w4 (HMM.out w4 w1.heap.size HBE4.out (Nat.le_refl _)) HB4.out ha HD4.out).mono ?_
      rintro e w5 ⟨rfl, hdone, hb5⟩
      obtain ⟨g5, x2, x3, L5, hg5, hbuf5⟩ := hdone
      have hs0 := HBE.out.size
      have hs4 := HBE4.out.size
      have hB5 := hb5 w.heap.size (by omega) (by omega) hgx2
      have hn : (hdr ++ pay).length ≤ 1000000 := by rw [List.length_append]; omega
      generalize hdr ++ pay = xs at hg5 hbuf5 hn hR
      obtain ⟨N, hN⟩ : ∃ N, N = xs.length := ⟨_, rfl⟩
      rw [← hN] at hbuf5 hn
      have hlx : (bcs xs).length = N := by rw [bcs_length, hN]
      have HLX := Lib.hid hlx
      have HG5 := Lib.hid hg5
      have HBUF5 := Lib.hid hbuf5
      have HB5 := Lib.hid hB5
      clear hg5 hbuf5 hB5 hb5 hN hlx
      go_wp2_with fail
      refine (bufbytes_any w1.heap.size N (some ⟨g5, 0, none⟩) x2 x3 L5 w5 HBUF5.out).mono ?_
      rintro e w6 ⟨rfl, q, rfl⟩
      go_wp2_with fail
      have hsl : Sl (w5.drewN q) (w5.drewN q).heap.size (some ⟨g5, 0, none⟩) N (bcs xs) := (HG5.out.drewN q).sl HG5.out.lt HLX.out (fun j u hu => by rw [Nat.zero_add]; exact hu)
      refine (bclone_any (some ⟨g5, 0, none⟩) N N xs _ hsl (by simp) hn).mono ?_
      rintro e w7 ⟨A7, c7, rfl, hc7, hn7, hb7, hs7⟩
      have HB7 := Lib.hid hb7
      have HS7 := Lib.hid hs7
      clear hb7 hs7 hsl
      go_wp2_with fail
      have hs5 := HB5.out.size
      have hz : (w5.drewN q).heap.size = w5.heap.size := rfl
      exact hR.out _ _ ⟨A7, N, c7, rfl, (HBE.out.trans ((HB1.out.mono hs0).trans ((HBE4.out.mono (by omega)).trans (below_drewN HB5.out q)))).trans (HB7.out.mono (by omega)), HS7.out⟩
end Go.Proofs.YtphmklgbbpiafaaGreat
