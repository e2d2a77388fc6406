/-
  Contracts of the buffer: bytes ahead, bytes behind, its bytes. No condition.
-/
import Derived.Test.YtphmklgbbpiafaaGreatBaseB
namespace Go.Proofs.YtphmklgbbpiafaaGreat
open Go Go.RowKit
set_option linter.unusedVariables false
attribute [local go_sem] sd_drewN ad_drewN

/-- m zero bytes. -/
def zs (m : Nat) : List Value := List.replicate m (.int .u8 0)
theorem zs_length (m : Nat) : (zs m).length = m := by simp [zs]
theorem zs_one {m : Nat} : ∀ u ∈ zs m, u.oneCell' = true := by
  intro u hu; simp only [zs, List.mem_replicate] at hu; obtain ⟨_, rfl⟩ := hu; rfl
theorem mk_u8 (l : Int) (m : Nat) (h : l = m) (hm : m ≤ 1000000) (W : World) :
    (Instr.makeSlice 25 (.int .i64 l) (.int .i64 l)).run Tryz.prog W = .ok (.slice (some ⟨W.heap.size, 0, none⟩) m m) (W.alloc (.cells (zs m).toArray 5)) := by
  obtain ⟨i0, hi0, hz0, hz1, hz2⟩ := info_parts info5
  subst h
  have := run_make (P := Tryz.prog) W 25 5 i0 _ Tryz.underlying25 hi0 hz0 .i64 .i64 m m (by omega) (by omega) (by rw [hz2]; omega) (by omega)
  have e : madeCells (Value.int .u8 0).cells m = (zs m).toArray := by
    apply Array.ext'
    show (madeCells #[Value.int .u8 0] m).toList = _
    rw [toList_madeCells_one]
    rfl
  rw [this, hz1, Int.toNat_natCast, Nat.mul_one, e]
theorem size5 : (Tryz.prog.info? 5).map (·.size) = some 1 := by kernel_rfl

/-- The buffer's bytes: none, or a block of their own. -/
def Dat (w : World) (D : Option Addr) (n : Nat) (cs : List Value) : Prop := (D = none ∧ cs = [] ∧ n = 0) ∨ ∃ g, D = some ⟨g, 0, none⟩ ∧ Bk w g 5 cs ∧ cs.length = n
theorem Dat.length {w : World} {D : Option Addr} {n : Nat} {cs : List Value} (h : Dat w D n cs) : cs.length = n := by
  rcases h with ⟨_, rfl, rfl⟩ | ⟨g, _, _, h⟩
  · rfl
  · exact h
theorem splice_zs (num n : Nat) (cs : List Value) (h : cs.length = n) : splice (zs (n + num)) num cs = zs num ++ cs := by
  unfold splice zs
  rw [List.take_replicate, List.drop_replicate, h, show min num (n + num) = num from by omega, show n + num - (num + n) = 0 from by omega]
  simp

theorem Bk.cast {w : World} {g : Nat} {t : TypeId} {cs cs' : List Value} (h : Bk w g t cs) (e : cs = cs') : Bk w g t cs' := e ▸ h
theorem grownBy_refl' (w : World) (row : Option Nat) : w.grownBy w row := ⟨rfl, rfl, rfl, Nat.le_refl _, fun _ _ _ => rfl⟩
theorem only_drewN {a w : World} {row : Option Nat} (h : a.grownBy w row) (n : Nat) : a.grownBy (w.drewN n) row := ⟨h.os, h.tape, h.output, h.size, h.block⟩
theorem only_alloc {a w : World} {row : Option Nat} (h : a.grownBy w row) (o : Obj) : a.grownBy (w.alloc o) row :=
  ⟨h.os, h.tape, h.output, Nat.le_trans h.size (by simp), fun i hi hne => (Below.heap_alloc w o i (Nat.lt_of_lt_of_le hi h.size)).trans (h.block i hi hne)⟩
theorem only_set {a w : World} {g : Nat} (h : a.grownBy w (some g)) {p : Addr} (hp : p.block = g ∨ a.heap.size ≤ p.block) (u : Value) : a.grownBy (w.setCell p u) (some g) :=
  ⟨h.os, h.tape, h.output, by simpa [World.setCell] using h.size, fun i hi hne => (Below.heap_setCell w p u i (by
    rintro rfl
    rcases hp with hp | hp
    · exact hne (by rw [hp])
    · omega)).trans (h.block i hi hne)⟩
theorem only_below {a w w' : World} {row : Option Nat} (h : a.grownBy w row) (hb : Below a.heap.size w w') : a.grownBy w' row :=
  ⟨hb.os.trans h.os, hb.tape.trans h.tape, hb.output.trans h.output, Nat.le_trans h.size hb.size, fun i hi hne => (hb.block i hi).trans (h.block i hi hne)⟩
theorem only_trans {a w w' : World} {row : Option Nat} (h : a.grownBy w row) (hb : w.grownBy w' row) : a.grownBy w' row :=
  ⟨hb.os.trans h.os, hb.tape.trans h.tape, hb.output.trans h.output, Nat.le_trans h.size hb.size, fun i hi hne => (hb.block i (Nat.lt_of_lt_of_le hi h.size) hne).trans (h.block i hi hne)⟩

set_option maxRecDepth 100000 in
set_option maxHeartbeats 1000000 in
/-- serializeBuffer.PrependBytes: so many zero bytes in a new block ahead of what was there. -/
theorem prepend_any (gb n num p a : Nat) (D : Option Addr) (cs : List Value) (L : Value) (w : World)
    (hb : Bk w gb 163 [.slice D n n, .int .i64 0, .int .i64 p, .int .i64 a, L]) (hD : Dat w D n cs) (h1 : ∀ u ∈ cs, u.oneCell' = true) (hn : n ≤ 4000) (hnum : 0 < num) (hnum2 : num ≤ 4000) (hp : p ≤ num) :
    Calls Tryz.prog 179 #[.pointer (some ⟨gb, 0, none⟩), .int .i64 num] w fun e w' => ∃ g,
      e = .returned (.tuple #[.slice (some ⟨g, 0, none⟩) num (n + num), .nilIface]) ∧ w.heap.size ≤ g ∧ Bk w' g 5 (zs num ++ cs) ∧
      Bk w' gb 163 [.slice (some ⟨g, 0, none⟩) (n + num) (n + num), .int .i64 0, .int .i64 ((p : Int) + num), .int .i64 a, L] ∧ w.grownBy w' (some gb) := by
  refine calls_hid fun R hR => ?_
  have hgb := hb.lt
  have c0 := hb.cell 0
  have c1 := hb.cell 1
  have c2 := hb.cell 2
  have f0 := hb.frozen 0
  have f1 := hb.frozen 1
  have f2 := hb.frozen 2
  simp only [List.getElem?_cons_zero, List.getElem?_cons_succ] at c0 c1 c2
  have hlen := hD.length
  have hsrc : 0 < cs.length → ∃ ad, D = some ad ∧ ∀ j v, cs[j]? = some v → ∀ u o, (((w.setCell ⟨gb, 2, none⟩ u).alloc o).drew).cell? (ad.add j) = some v := by
    intro h0
    rcases hD with ⟨_, rfl, _⟩ | ⟨g, rfl, hg, _⟩
    · simp at h0
    · refine ⟨_, rfl, fun j v hj u o => ?_⟩
      have hne : g ≠ gb := fun e => by subst e; unfold Bk at hg hb; rw [hg] at hb; simp at hb
      have := (((hg.far (p := ⟨gb, 2, none⟩) hne u).alloc o).drew).cell j
      rw [Addr.add_lit, Nat.zero_add, this]
      exact hj
  have HB := Lib.hid hb
  have HS := Lib.hid hsrc
  have HL := Lib.hid hlen
  clear hb hD hsrc hlen
  have hmk := mk_u8 ((n : Int) + num) (n + num) (by omega) (by omega)
  have hle : (num : Int) ≤ (n : Int) + num := by omega
  have t1 : decide ((num : Int) < 0) = false := by simp
  have t2 : decide (0 < num) = true := by simpa using hnum
  rcases Nat.lt_or_ge p num with hpn | hpn
  · go_enter Tryz.func179, Tryz.ntmps179
    go_wp2_with fail
    clear hmk
    refine wp_region_tail 12 (by kernel_rfl) (by kernel_rfl) ?_
    simp only [List.take_succ_cons, List.take_zero, List.drop_succ_cons, List.drop_zero]
    repeat still_step
    refine wpStill_nil ?_
    refine wpList_copy_splice rfl (.tmp 52) (.tmp 61) 25 25 rfl 5 Tryz.underlying25 size5 _ D n n n n rfl rfl w.heap.size num (zs (n + num)) 5 ?_ cs ?_ ?_ ?_ h1 w.heap.size (w.setCell ⟨gb, 2, none⟩ (.int .i64 ((p : Int) + num))) ?_ (Nat.le_refl _) ?_
    · have := heap_alloc_new (w.setCell ⟨gb, 2, none⟩ (.int .i64 ((p : Int) + num))) (.cells (zs (n + num)).toArray 5)
      rw [World.size_setCell] at this
      exact this
    · rw [HL.out]; simp
    · intro h0
      have := HL.out
      obtain ⟨ad, rfl, h⟩ := HS.out h0
      exact ⟨if_neg (by omega), ad, rfl, fun j v hj => h j v hj _ _⟩
    · have := HL.out; rw [zs_length]; omega
    · exact ((Below.refl _ _).alloc (by simp) _).drew
    · intro w2 HG2 hB2
      have hgb2 : gb < w.heap.size := hgb
      have hb2 : Bk w2 gb 163 [.slice D n n, .int .i64 0, .int .i64 ((p : Int) + num), .int .i64 a, L] := (by simpa using HB.out.set_ 2 (.int .i64 ((p : Int) + num)) : Bk (w.setCell ⟨gb, 2, none⟩ (.int .i64 ((p : Int) + num))) gb 163 _).below hB2 hgb
      have HB2 := Lib.hid hb2
      have k0 : w2.cell? ⟨gb, 0, none⟩ = some (.slice D n n) := hb2.cell 0
      have k1 : w2.cell? ⟨gb, 1, none⟩ = some (.int .i64 0) := hb2.cell 1
      have e0 := hb2.frozen 0
      have e1 := hb2.frozen 1
      have q1 : decide ((num : Int) + n ≤ (n : Int) + num) = true := by simp; omega
      clear hb2 c0 c1 c2 f0 f1 f2
      go_wp2_with fail
      all_goals
        go_quiet (fail)
        go_wp2
        have hlen := HL.out
        first | subst h | skip
        refine hR.out _ _ ⟨w.heap.size, by simp, Nat.le_refl _, ?_, ?_, ?_⟩
        · have hg2 : Bk w2 w.heap.size 5 (zs num ++ cs) := by have := HG2.out; rw [splice_zs num _ cs hlen] at this; exact this
          exact ((((hg2.far (p := ⟨gb, 1, none⟩) (by simp; omega) _).far (p := ⟨gb, 0, none⟩) (by simp; omega) _).far (p := ⟨gb, 1, none⟩) (by simp; omega) _)).drewN _
        · exact Bk.cast ((((HB2.out.set_ 1 _).set_ 0 _).set_ 1 _).drewN nq) (by simp [Nat.add_comm])
        · have g1 : w.grownBy w2 (some gb) := only_below (only_set (grownBy_refl' w _) (.inl rfl) _) hB2
          exact only_drewN (only_set (only_set (only_set g1 (.inl rfl) _) (.inl rfl) _) (.inl rfl) _) _
  · obtain rfl : num = p := by omega
    go_enter Tryz.func179, Tryz.ntmps179
    go_wp2_with fail
    clear hmk
    refine wp_region_tail 12 (by kernel_rfl) (by kernel_rfl) ?_
    simp only [List.take_succ_cons, List.take_zero, List.drop_succ_cons, List.drop_zero]
    repeat still_step
    refine wpStill_nil ?_
    refine wpList_copy_splice rfl (.tmp 52) (.tmp 61) 25 25 rfl 5 Tryz.underlying25 size5 _ D n n n n rfl rfl w.heap.size num (zs (n + num)) 5 ?_ cs ?_ ?_ ?_ h1 w.heap.size (w.setCell ⟨gb, 2, none⟩ (.int .i64 ((num : Int) + num))) ?_ (Nat.le_refl _) ?_
    · have := heap_alloc_new (w.setCell ⟨gb, 2, none⟩ (.int .i64 ((num : Int) + num))) (.cells (zs (n + num)).toArray 5)
      rw [World.size_setCell] at this
      exact this
    · rw [HL.out]; simp
    · intro h0
      have := HL.out
      obtain ⟨ad, rfl, h⟩ := HS.out h0
      exact ⟨if_neg (by omega), ad, rfl, fun j v hj => h j v hj _ _⟩
    · have := HL.out; rw [zs_length]; omega
    · exact ((Below.refl _ _).alloc (by simp) _).drew
    · intro w2 HG2 hB2
      have hgb2 : gb < w.heap.size := hgb
      have hb2 : Bk w2 gb 163 [.slice D n n, .int .i64 0, .int .i64 ((num : Int) + num), .int .i64 a, L] := (by simpa using HB.out.set_ 2 (.int .i64 ((num : Int) + num)) : Bk (w.setCell ⟨gb, 2, none⟩ (.int .i64 ((num : Int) + num))) gb 163 _).below hB2 hgb
      have HB2 := Lib.hid hb2
      have k0 : w2.cell? ⟨gb, 0, none⟩ = some (.slice D n n) := hb2.cell 0
      have k1 : w2.cell? ⟨gb, 1, none⟩ = some (.int .i64 0) := hb2.cell 1
      have e0 := hb2.frozen 0
      have e1 := hb2.frozen 1
      have q1 : decide ((num : Int) + n ≤ (n : Int) + num) = true := by simp; omega
      clear hb2 c0 c1 c2 f0 f1 f2
      go_wp2_with fail
      all_goals
        go_quiet (fail)
        go_wp2
        have hlen := HL.out
        first | subst h | skip
        refine hR.out _ _ ⟨w.heap.size, by simp, Nat.le_refl _, ?_, ?_, ?_⟩
        · have hg2 : Bk w2 w.heap.size 5 (zs num ++ cs) := by have := HG2.out; rw [splice_zs num _ cs hlen] at this; exact this
          exact ((((hg2.far (p := ⟨gb, 1, none⟩) (by simp; omega) _).far (p := ⟨gb, 0, none⟩) (by simp; omega) _).far (p := ⟨gb, 1, none⟩) (by simp; omega) _)).drewN _
        · exact Bk.cast ((((HB2.out.set_ 1 _).set_ 0 _).set_ 1 _).drewN nq) (by simp [Nat.add_comm])
        · have g1 : w.grownBy w2 (some gb) := only_below (only_set (grownBy_refl' w _) (.inl rfl) _) hB2
          exact only_drewN (only_set (only_set (only_set g1 (.inl rfl) _) (.inl rfl) _) (.inl rfl) _) _

set_option maxRecDepth 100000 in
set_option maxHeartbeats 1000000 in
/-- serializeBuffer.Bytes. -/
theorem bufbytes_any (gb n : Nat) (D : Option Addr) (x2 x3 L : Value) (w : World)
    (hb : Bk w gb 163 [.slice D n n, .int .i64 0, x2, x3, L]) :
    Calls Tryz.prog 176 #[.pointer (some ⟨gb, 0, none⟩)] w fun e w' => e = .returned (.slice D n n) ∧ ∃ q, w' = w.drewN q := by
  refine calls_hid fun R hR => ?_
  have c0 := hb.cell 0
  have c1 := hb.cell 1
  simp only [List.getElem?_cons_zero, List.getElem?_cons_succ] at c0 c1
  clear hb
  go_enter Tryz.func176, Tryz.ntmps176
  go_wp2_with fail
  go_quiet (fail)
  go_wp2
  exact hR.out _ _ ⟨rfl, _, rfl⟩

set_option maxRecDepth 100000 in
set_option maxHeartbeats 1000000 in
/-- serializeBuffer.AppendBytes of no byte. -/
theorem append_zero (gb n : Nat) (D : Option Addr) (x1 x2 x3 L : Value) (w : World)
    (hb : Bk w gb 163 [.slice D n n, x1, x2, x3, L]) (hn : n ≤ 4000) :
    Calls Tryz.prog 175 #[.pointer (some ⟨gb, 0, none⟩), .int .i64 0] w fun e w' => ∃ A c, e = .returned (.tuple #[.slice A 0 c, .nilIface]) ∧
      Bk w' gb 163 [.slice D n n, x1, x2, x3, L] ∧ w.grownBy w' (some gb) := by
  refine calls_hid fun R hR => ?_
  have c0 := hb.cell 0
  have f0 := hb.frozen 0
  simp only [List.getElem?_cons_zero] at c0
  have HB := Lib.hid hb
  clear hb
  go_enter Tryz.func175, Tryz.ntmps175
  go_wp2_with fail
  exact hR.out _ _ ⟨_, _, rfl, by simpa using HB.out.set_ 0 (.slice D n n), only_set (grownBy_refl' _ _) (.inl rfl) _⟩

theorem splice_front (num n : Nat) (cs : List Value) (h : cs.length = n) : splice (zs (n + num)) 0 cs = cs ++ zs num := by
  unfold splice zs
  rw [List.take_zero, List.drop_replicate, h, show n + num - (0 + n) = num from by omega]
  simp

set_option maxRecDepth 100000 in
set_option maxHeartbeats 1000000 in
/-- serializeBuffer.AppendBytes of some bytes, where nothing was appended before: a new block, what was there, zeros behind. -/
theorem append_pos (gb n num : Nat) (D : Option Addr) (cs : List Value) (x2 L : Value) (w : World)
    (hb : Bk w gb 163 [.slice D n n, .int .i64 0, x2, .int .i64 0, L]) (hD : Dat w D n cs) (h1 : ∀ u ∈ cs, u.oneCell' = true) (hn : n ≤ 4000) (hnum : 0 < num) (hnum2 : num ≤ 4000) :
    Calls Tryz.prog 175 #[.pointer (some ⟨gb, 0, none⟩), .int .i64 num] w fun e w' => ∃ g,
      e = .returned (.tuple #[.slice (some ⟨g, n, none⟩) num num, .nilIface]) ∧ w.heap.size ≤ g ∧ Bk w' g 5 (cs ++ zs num) ∧
      Bk w' gb 163 [.slice (some ⟨g, 0, none⟩) (n + num) (n + num), .int .i64 0, x2, .int .i64 num, L] ∧ w.grownBy w' (some gb) := by
  refine calls_hid fun R hR => ?_
  have hgb := hb.lt
  have c0 := hb.cell 0
  have c1 := hb.cell 1
  have c3 := hb.cell 3
  have f0 := hb.frozen 0
  have f3 := hb.frozen 3
  simp only [List.getElem?_cons_zero, List.getElem?_cons_succ] at c0 c1 c3
  have hlen := hD.length
  have hsrc : 0 < cs.length → ∃ ad, D = some ad ∧ ∀ j v, cs[j]? = some v → ∀ u o, (((w.setCell ⟨gb, 3, none⟩ u).alloc o).drew).cell? (ad.add j) = some v := by
    intro h0
    rcases hD with ⟨_, rfl, _⟩ | ⟨g, rfl, hg, _⟩
    · simp at h0
    · refine ⟨_, rfl, fun j v hj u o => ?_⟩
      have hne : g ≠ gb := fun e => by subst e; unfold Bk at hg hb; rw [hg] at hb; simp at hb
      have := (((hg.far (p := ⟨gb, 3, none⟩) hne u).alloc o).drew).cell j
      rw [Addr.add_lit, Nat.zero_add, this]
      exact hj
  have HB := Lib.hid hb
  have HS := Lib.hid hsrc
  have HL := Lib.hid hlen
  clear hb hD hsrc hlen
  have hmk := mk_u8 ((n : Int) + num) (n + num) (by omega) (by omega)
  have hle : (n : Int) ≤ (n : Int) + num := by omega
  have hle0 : (0 : Int) ≤ (n : Int) + num := by omega
  have t1 : decide ((num : Int) < 0) = false := by simp
  have t2 : decide (0 < num) = true := by simpa using hnum
  go_enter Tryz.func175, Tryz.ntmps175
  go_wp2_with fail
  clear hmk
  refine wp_region_tail 15 (by kernel_rfl) (by kernel_rfl) ?_
  simp only [List.take_succ_cons, List.take_zero, List.drop_succ_cons, List.drop_zero]
  repeat still_step
  refine wpStill_nil ?_
  refine wpList_copy_splice rfl (.tmp 55) (.tmp 64) 25 25 rfl 5 Tryz.underlying25 size5 _ D _ _ n n rfl rfl w.heap.size 0 (zs (n + num)) 5 ?_ cs ?_ ?_ ?_ h1 w.heap.size (w.setCell ⟨gb, 3, none⟩ (.int .i64 num)) ?_ (Nat.le_refl _) ?_
  · have := heap_alloc_new (w.setCell ⟨gb, 3, none⟩ (.int .i64 num)) (.cells (zs (n + num)).toArray 5)
    rw [World.size_setCell] at this
    exact this
  · rw [HL.out]; exact (Nat.min_eq_left (Nat.le_add_right _ _)).symm
  · intro h0
    have := HL.out
    obtain ⟨ad, rfl, h⟩ := HS.out h0
    exact ⟨by simp, ad, rfl, fun j v hj => h j v hj _ _⟩
  · have := HL.out; rw [zs_length]; omega
  · exact ((Below.refl _ _).alloc (by simp) _).drew
  · intro w2 HG2 hB2
    have hgb2 : gb < w.heap.size := hgb
    have hb2 : Bk w2 gb 163 [.slice D n n, .int .i64 0, x2, .int .i64 num, L] := (by simpa using HB.out.set_ 3 (.int .i64 num) : Bk (w.setCell ⟨gb, 3, none⟩ (.int .i64 num)) gb 163 _).below hB2 hgb
    have HB2 := Lib.hid hb2
    have k0 : w2.cell? ⟨gb, 0, none⟩ = some (.slice D n n) := hb2.cell 0
    have e0 := hb2.frozen 0
    clear hb2 c0 c1 c3 f0 f3
    go_wp2
    have hlen := HL.out
    refine hR.out _ _ ⟨w.heap.size, by simp, Nat.le_refl _, ?_, ?_, ?_⟩
    · have hg2 : Bk w2 w.heap.size 5 (cs ++ zs num) := by have := HG2.out; rw [splice_front num _ cs hlen] at this; exact this
      exact (hg2.far (p := ⟨gb, 0, none⟩) (by simp; omega) _).far (p := ⟨gb, 0, none⟩) (by simp; omega) _
    · exact Bk.cast ((HB2.out.set_ 0 _).set_ 0 _) (by simp)
    · have g1 : w.grownBy w2 (some gb) := only_below (only_set (grownBy_refl' w _) (.inl rfl) _) hB2
      exact only_set (only_set g1 (.inl rfl) _) (.inl rfl) _
end Go.Proofs.YtphmklgbbpiafaaGreat
