/-
  Copies of bytes, and that they lie in new memory; the taker's state while a layer is made. No condition.
-/
import Derived.Test.YtphmklgbbpiafaaGreatWidA
namespace Go.Proofs.YtphmklgbbpiafaaGreat
open Go Go.RowKit
set_option linter.unusedVariables false
attribute [local go_sem] sd_drewN ad_drewN

/-- A slice's memory lies from block B on. -/
def Fr (B : Nat) (A : Option Addr) : Prop := ∀ p, A = some p → B ≤ p.block
theorem own_fresh {w : World} {base : Nat} {e : TypeId} {A : Option Addr} {n c : Nat} {xs : List Value} (h : w.ownsRow base e 1 (.slice A n c) n xs) : Fr base A := by
  rintro p rfl
  exact (h.lt p.block rfl).1
theorem Sl.past {w : World} {B n : Nat} {A : Option Addr} {xs : List Value} (h : Sl w B A n xs) {p : Addr} (hf : ∀ q, A = some q → q.block ≠ p.block) (u : Value) : Sl (w.setCell p u) B A n xs :=
  ⟨h.1, fun hn => by
    obtain ⟨g, o, e, hb, hc⟩ := h.2 hn
    exact ⟨g, o, e, hb, fun j v hv => (World.cell?_of_block (Below.heap_setCell w p u g (hf _ e))).trans (hc j v hv)⟩⟩

set_option maxRecDepth 100000 in
/-- impl.clone: the same bytes in new memory. -/
theorem clone_new (A : Option Addr) (n c : Nat) (xs : List UInt8) (w : World) (hs : Sl w w.heap.size A n (bcs xs)) (hbig : n ≤ 1000000) :
    Calls Tryz.prog 40 #[.slice A n c] w fun e w' => ∃ A' c', e = .returned (.slice A' n c') ∧ Fr w.heap.size A' ∧ Below w.heap.size w w' ∧ Sl w' w'.heap.size A' n (bcs xs) := by
  refine calls_hid fun R hR => ?_
  obtain ⟨i0, hi0, hz0, hz1, hz2⟩ := info_parts info5
  have HS := Lib.hid hs
  clear hs
  go_enter Tryz.func40, Tryz.ntmps40
  go_wp2_with (at_builtin; refine wpList_append_sl _ rfl (.const (.slice none 0 0)) (.tmp 3) _ rfl w.heap.size 5 i0 _ 1 Tryz.underlying25 hi0 hz0 hz1 hz2 rfl (.slice none 0 0) 0 [] rfl (World.ownsRow_nil _ _ _ _) w.heap.size A n c (bcs xs) rfl HS.out bcs_one (by simp only [maxLen]; omega) (by omega) (Nat.le_refl _) ?_; intro v1 w1 ho1 hg1 hv1)
  obtain ⟨A', c', hv, hc, hs', hnil⟩ := own_form ho1.out
  rw [Nat.zero_add] at hv hc hs'
  rw [List.nil_append] at hs'
  have hf := ho1.out
  rw [hv, Nat.zero_add] at hf
  rw [hv]
  exact hR.out _ _ ⟨A', c', rfl, own_fresh hf, (Below.refl _ _).grown hg1 (Nat.le_refl _) (by simp [Value.ownBlock]), hs'⟩

set_option maxRecDepth 100000 in
/-- taker.bytes: a copy of the next bytes, in new memory. -/
theorem tbytes_new (gc gD oD nD cD k : Nat) (ki : Int) (A : Option Addr) (n c : Nat) (xs : List UInt8) (w : World)
    (hki : ki = k) (hk : k < nD) (hnD : nD ≤ 1000)
    (c1 : w.cell? ⟨gc, 1, none⟩ = some (.slice (some ⟨gD, oD, none⟩) nD cD))
    (c5 : w.cell? ⟨gc, 5, none⟩ = some (.int .i64 ki))
    (f5 : w.frozen? ⟨gc, 5, none⟩ = false)
    (hne : gD ≠ gc) (cv : w.cell? ⟨gD, oD + k, none⟩ = some (.slice A n c)) (hs : Sl w gc A n (bcs xs)) (hn : n ≤ 1000000) (hgc : gc ≤ w.heap.size) :
    Calls Tryz.prog 38 #[.pointer (some ⟨gc, 0, none⟩)] w fun e w' => ∃ A' c', 
      e = .returned (.slice A' n c') ∧ Fr w.heap.size A' ∧ Below w.heap.size (w.setCell ⟨gc, 5, none⟩ (.int .i64 (ki + 1))) w' ∧ Sl w' w'.heap.size A' n (bcs xs) := by
  refine calls_hid fun R hR => ?_
  subst hki
  have h1 : decide (nD ≤ k) = false := by simp; omega
  have cv' : (w.setCell ⟨gc, 5, none⟩ (.int .i64 (k + 1))).cell? ⟨gD, oD + k, none⟩ = some (.slice A n c) := by
    rw [World.cell?_setCell_other _ _ _ _ (by intro e; injection e with e; exact hne e.symm)]; exact cv
  have hs' : Sl (w.setCell ⟨gc, 5, none⟩ (.int .i64 (k + 1))) w.heap.size A n (bcs xs) := (hs.keep (fun g hg => Below.heap_setCell _ _ _ _ (by simp; omega))).more hgc
  have HS := Lib.hid hs'
  clear hs hs'
  go_enter Tryz.func38, Tryz.ntmps38
  go_wp2_with fail
  go_quiet (fail)
  go_wp2_with fail
  have hw1 : IntKind.i64.wrap (k : Int) = k := IntWalk.i64_in _ (by omega)
  have hw2 : (k : Int) < (nD : Int) := by omega
  refine wp_region_tail 12 (by kernel_rfl) (by kernel_rfl) ?_
  simp only [List.take_succ_cons, List.take_zero, List.drop_succ_cons, List.drop_zero]
  repeat still_step
  refine wpStill_nil ?_
  clear hw1
  go_wp2_with fail
  refine (clone_new A n c xs _ ?h1 hn).mono ?_
  case h1 => (have := HS.out; simp only [World.heap_drewN, World.size_setCell]; exact this)
  rintro e w1 ⟨A', c', rfl, h2, h4, h5⟩
  go_wp2
  simp only [World.heap_drewN, World.size_setCell] at h2 h4
  exact hR.out _ _ ⟨A', c', rfl, h2, below_undrewN h4, h5⟩

/-- While a layer is made: the taker's block gc, the new layer's block gx; the copies that it has; below w0's heap nothing has changed. -/
structure Tak (w0 w : World) (gc gx : Nat) (T : TypeId) (AN AD AP AB : Option Addr) (nN cN nD cD cP nB cB k d : Nat) (ls : Bool) (sl : List (Option Addr × List UInt8)) (cs : List Value) : Prop where
  tk : Bk w gc 72 [.slice AN nN cN, .slice AD nD cD, .slice AP 0 cP, .slice AB nB cB, .int .i64 k, .int .i64 d, .bool false, .bool ls]
  bx : Bk w gx T cs
  be : Below w0.heap.size w0 w
  lc : w0.heap.size ≤ gc
  lx : w0.heap.size ≤ gx
  ne : gc ≠ gx
  sl : ∀ p ∈ sl, Sl w w.heap.size p.1 p.2.length (bcs p.2) ∧ ∀ q, p.1 = some q → q.block ≠ gc ∧ q.block ≠ gx
section
variable {w0 w : World} {gc gx : Nat} {T : TypeId} {AN AD AP AB : Option Addr} {nN cN nD cD cP nB cB k d : Nat} {ls : Bool} {sl : List (Option Addr × List UInt8)} {cs : List Value}
theorem Tak.drewN (h : Tak w0 w gc gx T AN AD AP AB nN cN nD cD cP nB cB k d ls sl cs) (n : Nat) : Tak w0 (w.drewN n) gc gx T AN AD AP AB nN cN nD cD cP nB cB k d ls sl cs :=
  ⟨h.tk.drewN n, h.bx.drewN n, below_drewN h.be n, h.lc, h.lx, h.ne, fun p hp => ⟨(h.sl p hp).1.keep fun _ _ => rfl, (h.sl p hp).2⟩⟩
theorem Tak.store (h : Tak w0 w gc gx T AN AD AP AB nN cN nD cD cP nB cB k d ls sl cs) (i : Nat) (u : Value) : Tak w0 (w.setCell ⟨gx, i, none⟩ u) gc gx T AN AD AP AB nN cN nD cD cP nB cB k d ls sl (cs.set i u) :=
  ⟨h.tk.far h.ne u, h.bx.set_ i u, h.be.setCell h.lx u, h.lc, h.lx, h.ne, fun p hp => ⟨by simpa using (h.sl p hp).1.past (p := ⟨gx, i, none⟩) (fun q e => ((h.sl p hp).2 q e).2) u, (h.sl p hp).2⟩⟩
theorem Tak.count (h : Tak w0 w gc gx T AN AD AP AB nN cN nD cD cP nB cB k d ls sl cs) : Tak w0 (w.setCell ⟨gc, 4, none⟩ (.int .i64 ((k : Int) + 1))) gc gx T AN AD AP AB nN cN nD cD cP nB cB (k + 1) d ls sl cs :=
  ⟨by simpa using h.tk.set_ 4 (.int .i64 ((k : Int) + 1)), h.bx.far (Ne.symm h.ne) _, h.be.setCell h.lc _, h.lc, h.lx, h.ne, fun p hp => ⟨by simpa using (h.sl p hp).1.past (p := ⟨gc, 4, none⟩) (fun q e => ((h.sl p hp).2 q e).1) _, (h.sl p hp).2⟩⟩
theorem Tak.start (w : World) (T : TypeId) (AN AD AP AB : Option Addr) (nN cN nD cD cP nB cB : Nat) (c0 : List Value) (cs : List Value) :
    Tak w (((w.alloc (.cells c0.toArray 27)).alloc (.cells [.slice AN nN cN, .slice AD nD cD, .slice AP 0 cP, .slice AB nB cB, .int .i64 0, .int .i64 0, .bool false, .bool false].toArray 72)).alloc (.cells cs.toArray T)) (w.heap.size + 1) (w.heap.size + 1 + 1) T AN AD AP AB nN cN nD cD cP nB cB 0 0 false [] cs := by
  refine ⟨?_, ?_, (((Below.refl _ _).alloc (Nat.le_refl _) _).alloc (by simp) _).alloc (by simp; omega) _, by omega, by omega, by omega, by simp⟩
  · exact (Bk.new2 w 27 72 c0 [.slice AN nN cN, .slice AD nD cD, .slice AP 0 cP, .slice AB nB cB, .int .i64 0, .int .i64 0, .bool false, .bool false]).alloc _
  · have := Bk.new ((w.alloc (.cells c0.toArray 27)).alloc (.cells [.slice AN nN cN, .slice AD nD cD, .slice AP 0 cP, .slice AB nB cB, .int .i64 0, .int .i64 0, .bool false, .bool false].toArray 72)) T cs
    simpa using this
theorem Tak.src {nums : List Nat} (h : Tak w0 w gc gx T AN AD AP AB nN cN nD cD cP nB cB k d ls sl cs) (hN : Sl w0 w0.heap.size AN nN (ncs nums)) (hk : k < nN) :
    ∃ g o, AN = some ⟨g, o, none⟩ ∧ g ≠ gc ∧ w.cell? ⟨g, o + k, none⟩ = some (.int .u64 (nums.getD k 0 : Nat)) := by
  obtain ⟨g, o, rfl, hg, hc⟩ := hN.2 (by omega)
  have hl := hN.1
  rw [ncs_length] at hl
  refine ⟨g, o, rfl, by have := h.lc; omega, (h.be.cell (p := ⟨g, o + k, none⟩) hg).trans (hc k _ ?_)⟩
  rw [ncs, List.getElem?_map, List.getElem?_eq_getElem (by omega)]
  simp [List.getD, List.getElem?_eq_getElem (show k < nums.length by omega)]
theorem Tak.number {nums : List Nat} (h : Tak w0 w gc gx T AN AD AP AB nN cN nD cD cP nB cB k d ls sl cs) (hN : Sl w0 w0.heap.size AN nN (ncs nums)) (v : Nat) (bits : Int) (hv : nums.getD k 0 = v) (hk : k < nN) (hnN : nN ≤ 1000) (hb0 : 0 ≤ bits) (hb : bits < 64) (hv2 : v < 2 ^ bits.toNat) :
    Calls Tryz.prog 36 #[.pointer (some ⟨gc, 0, none⟩), .int .i64 bits] w fun e w' => e = .returned (.int .u64 v) ∧ Tak w0 w' gc gx T AN AD AP AB nN cN nD cD cP nB cB (k + 1) d ls sl cs := by
  subst hv
  obtain ⟨g, o, rfl, hg, hc⟩ := h.src hN hk
  refine (number_lt gc g o nN cN k (nums.getD k 0) bits k w rfl hk hnN hb0 hb hv2 (h.tk.cell 0) (h.tk.cell 4) (h.tk.frozen 4) hg hc).mono ?_
  rintro e w' ⟨rfl, q, rfl⟩
  exact ⟨rfl, h.count.drewN q⟩
theorem Tak.number64 {nums : List Nat} (h : Tak w0 w gc gx T AN AD AP AB nN cN nD cD cP nB cB k d ls sl cs) (hN : Sl w0 w0.heap.size AN nN (ncs nums)) (v : Nat) (hv : nums.getD k 0 = v) (hk : k < nN) (hnN : nN ≤ 1000) :
    Calls Tryz.prog 36 #[.pointer (some ⟨gc, 0, none⟩), .int .i64 64] w fun e w' => e = .returned (.int .u64 v) ∧ Tak w0 w' gc gx T AN AD AP AB nN cN nD cD cP nB cB (k + 1) d ls sl cs := by
  subst hv
  obtain ⟨g, o, rfl, hg, hc⟩ := h.src hN hk
  refine (number_64 gc g o nN cN k (nums.getD k 0) k w rfl hk hnN (h.tk.cell 0) (h.tk.cell 4) (h.tk.frozen 4) hg hc).mono ?_
  rintro e w' ⟨rfl, q, rfl⟩
  exact ⟨rfl, h.count.drewN q⟩
theorem Tak.truth {nums : List Nat} (h : Tak w0 w gc gx T AN AD AP AB nN cN nD cD cP nB cB k d ls sl cs) (hN : Sl w0 w0.heap.size AN nN (ncs nums)) (v : Nat) (hv : nums.getD k 0 = v) (hk : k < nN) (hnN : nN ≤ 1000) (hv2 : v < 2) :
    Calls Tryz.prog 37 #[.pointer (some ⟨gc, 0, none⟩)] w fun e w' => e = .returned (.bool (bt v)) ∧ Tak w0 w' gc gx T AN AD AP AB nN cN nD cD cP nB cB (k + 1) d ls sl cs := by
  subst hv
  obtain ⟨g, o, rfl, hg, hc⟩ := h.src hN hk
  refine (truth_ok gc g o nN cN k (nums.getD k 0) k w rfl hk hnN hv2 (h.tk.cell 0) (h.tk.cell 4) (h.tk.frozen 4) hg hc).mono ?_
  rintro e w' ⟨rfl, q, rfl⟩
  exact ⟨rfl, h.count.drewN q⟩
theorem Tak.bytes {ds : List Value} {data : List (List UInt8)} (h : Tak w0 w gc gx T AN AD AP AB nN cN nD cD cP nB cB k d ls sl cs) (hD : Sl w0 w0.heap.size AD nD ds) (hE : Each w0 w0.heap.size ds data) (xs : List UInt8) (hx : data.getD d [] = xs) (hd : d < nD) (hnD : nD = data.length) (hn : xs.length ≤ 1000) (hD2 : nD ≤ 1000) :
    Calls Tryz.prog 38 #[.pointer (some ⟨gc, 0, none⟩)] w fun e w' => ∃ A' c', e = .returned (.slice A' xs.length c') ∧ Tak w0 w' gc gx T AN AD AP AB nN cN nD cD cP nB cB k (d + 1) ls ((A', xs) :: sl) cs := by
  subst hx
  obtain ⟨g, o, rfl, hg, hc⟩ := hD.2 (by omega)
  have e : data[d]? = some (data.getD d []) := by simp [List.getD, List.getElem?_eq_getElem (show d < data.length by omega)]
  obtain ⟨A, c, h1, h2⟩ := hE.2 d _ e
  have hsz := h.be.size
  refine (tbytes_new gc g o nD cD d d A _ c (data.getD d []) w rfl hd hD2 (h.tk.cell 1) (h.tk.cell 5) (h.tk.frozen 5) (by have := h.lc; omega) ((h.be.cell (p := ⟨g, o + d, none⟩) hg).trans (hc d _ h1)) ((h2.below h.be).more h.lc) (by omega) (Nat.le_of_lt h.tk.lt)).mono ?_
  rintro e w' ⟨A', c', rfl, h3, h5, h6⟩
  have q1 : Bk (w.setCell ⟨gc, 5, none⟩ (.int .i64 ((d : Int) + 1))) gc 72 [.slice AN nN cN, .slice (some ⟨g, o, none⟩) nD cD, .slice AP 0 cP, .slice AB nB cB, .int .i64 k, .int .i64 ((d + 1 : Nat) : Int), .bool false, .bool ls] := by simpa using h.tk.set_ 5 (.int .i64 ((d : Int) + 1))
  have hs2 := h5.size
  rw [World.size_setCell] at hs2
  refine ⟨A', c', rfl, ⟨q1.below h5 h.tk.lt, (h.bx.far (p := ⟨gc, 5, none⟩) (Ne.symm h.ne) _).below h5 h.bx.lt, (h.be.setCell (p := ⟨gc, 5, none⟩) h.lc _).trans (h5.mono hsz), h.lc, h.lx, h.ne, ?_⟩⟩
  intro p hp
  rcases List.mem_cons.1 hp with rfl | hp
  · refine ⟨h6, fun q e => ?_⟩
    have := h3 q e
    have := h.tk.lt
    have := h.bx.lt
    omega
  · refine ⟨?_, (h.sl p hp).2⟩
    exact (((h.sl p hp).1.past (p := ⟨gc, 5, none⟩) (fun q e => ((h.sl p hp).2 q e).1) _).below h5).more hs2
theorem Tak.whole (h : Tak w0 w gc gx T AN AD AP AB nN cN nD cD cP nB cB k d ls sl cs) (hk : k = nN) (hd : d = nD) (hN : nN ≤ 1000) (hD : nD ≤ 1000) :
    Calls Tryz.prog 41 #[.pointer (some ⟨gc, 0, none⟩)] w fun e w' => e = .returned (.bool true) ∧ Tak w0 w' gc gx T AN AD AP AB nN cN nD cD cP nB cB k d ls sl cs := by
  refine (whole_ok gc nN cN nD cD cP AN AD AP k d ls w (by omega) (by omega) hN hD (h.tk.cell 0) (h.tk.cell 1) (h.tk.cell 2) (h.tk.cell 4) (h.tk.cell 5) (h.tk.cell 6) (h.tk.cell 7)).mono ?_
  rintro e w' ⟨rfl, q, rfl⟩
  exact ⟨rfl, h.drewN q⟩
set_option maxRecDepth 100000 in
theorem parts_ok (gc cP : Nat) (AP : Option Addr) (ls : Bool) (w : World) (c2 : w.cell? ⟨gc, 2, none⟩ = some (.slice AP 0 cP)) (c7 : w.cell? ⟨gc, 7, none⟩ = some (.bool ls)) (f7 : w.frozen? ⟨gc, 7, none⟩ = false) :
    Calls Tryz.prog 39 #[.pointer (some ⟨gc, 0, none⟩)] w fun e w' => e = .returned (.slice AP 0 cP) ∧ w' = w.setCell ⟨gc, 7, none⟩ (.bool true) := by
  refine calls_hid fun R hR => ?_
  go_enter Tryz.func39, Tryz.ntmps39
  go_wp2
  exact hR.out _ _ ⟨rfl, rfl⟩
theorem Tak.parts (h : Tak w0 w gc gx T AN AD AP AB nN cN nD cD cP nB cB k d ls sl cs) :
    Calls Tryz.prog 39 #[.pointer (some ⟨gc, 0, none⟩)] w fun e w' => e = .returned (.slice AP 0 cP) ∧ Tak w0 w' gc gx T AN AD AP AB nN cN nD cD cP nB cB k d true sl cs := by
  refine (parts_ok gc cP AP ls w (h.tk.cell 2) (h.tk.cell 7) (h.tk.frozen 7)).mono ?_
  rintro e w' ⟨rfl, rfl⟩
  exact ⟨rfl, by simpa using h.tk.set_ 7 (.bool true), h.bx.far (Ne.symm h.ne) _, h.be.setCell h.lc _, h.lc, h.lx, h.ne, fun p hp => ⟨by simpa using (h.sl p hp).1.past (p := ⟨gc, 7, none⟩) (fun q e => ((h.sl p hp).2 q e).1) _, (h.sl p hp).2⟩⟩
end
end Go.Proofs.YtphmklgbbpiafaaGreat
