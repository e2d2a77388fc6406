/-
  Contracts of the smallest functions: copies of bytes, numbers as bytes, the taker. No condition.
-/
import Derived.Test.YtphmklgbbpiafaaGreatProg
import Derived.Test.YtphmklgbbpiafaaGreatWordsB
import Derived.Deep.RegionLaw
namespace Go.Proofs.YtphmklgbbpiafaaGreat
open Go Go.RowKit
set_option linter.unusedVariables false

theorem info5 : (Tryz.prog.info? 5).map (fun i => (i.zero, i.size, i.bytes)) = some (some (.int .u8 0), 1, 1) := by kernel_rfl

/-- impl.clone: the same bytes in new memory; nil of none. -/
theorem clone_any (A : Option Addr) (n c : Nat) (xs : List UInt8) (w : World) (hs : Sl w w.heap.size A n (bcs xs)) (hbig : n ≤ 1000000) :
    Calls Tryz.prog 40 #[.slice A n c] w fun e w' => ∃ A' c', e = .returned (.slice A' n c') ∧ n ≤ c' ∧ (A' = none → c' = 0) ∧ Below w.heap.size w w' ∧ Sl w' w'.heap.size A' n (bcs xs) := by
  refine calls_hid fun R hR => ?_
  obtain ⟨i0, hi0, hz0, hz1, hz2⟩ := info_parts info5
  have HS := Lib.hid hs
  clear hs
  go_enter Tryz.func40, Tryz.ntmps40
  go_wp2_with (at_builtin; refine wpList_append_sl _ rfl (.const (.slice none 0 0)) (.tmp 3) _ rfl w.heap.size 5 i0 _ 1 Tryz.underlying25 hi0 hz0 hz1 hz2 rfl (.slice none 0 0) 0 [] rfl (World.ownsRow_nil _ _ _ _) w.heap.size A n c (bcs xs) rfl HS.out bcs_one (by simp only [maxLen]; omega) (by omega) (Nat.le_refl _) ?_; intro v1 w1 ho1 hg1 hv1)
  obtain ⟨A', c', hv, hc, hs', hnil⟩ := own_form ho1.out
  rw [Nat.zero_add] at hv hc hs'
  rw [List.nil_append] at hs'
  rw [hv]
  exact hR.out _ _ ⟨A', c', rfl, hc, hnil, (Below.refl _ _).grown hg1 (Nat.le_refl _) (by simp [Value.ownBlock]), hs'⟩

/-- What has been laid after r of 'size' rounds. -/
def bbs (n size r : Nat) : List Value := bcs (Lib.beBytes r (n / 256 ^ (size - r)))
theorem beBytes_succ (k v : Nat) : Lib.beBytes (k + 1) v = Lib.beBytes k (v / 256) ++ [(v % 256).toUInt8] := by
  simp [Lib.beBytes, Lib.leBytes]
theorem bbs_succ (n size r : Nat) (h : r < size) : bbs n size (r + 1) = bbs n size r ++ [Value.int .u8 ((n : Int) / 2 ^ (8 * (size - r - 1)) % 256)] := by
  unfold bbs
  rw [beBytes_succ, bcs_append]
  have e : n / 256 ^ (size - (r + 1)) / 256 = n / 256 ^ (size - r) := by
    rw [Nat.div_div_eq_div_mul, ← Nat.pow_succ]
    congr 2
    omega
  rw [e]
  congr 1
  have h1 : (256 : Nat) ^ (size - (r + 1)) = 2 ^ (8 * (size - r - 1)) := by
    rw [show (256 : Nat) = 2 ^ 8 from rfl, ← Nat.pow_mul]
    congr 1
  rw [h1]
  simp only [bcs, List.map_cons, List.map_nil, Lib.toUInt8_mod]
  congr 2
theorem bbs_zero (n size : Nat) : bbs n size 0 = [] := rfl
theorem bbs_full (n size : Nat) : bbs n size size = bcs (Lib.beBytes size n) := by unfold bbs; simp

set_option maxRecDepth 100000 in
/-- spec.Bytes: the bytes of a number, the highest first. -/
theorem bytes_any (n : Nat) (size : Nat) (w : World) (hs : size ≤ 8) :
    Calls Tryz.prog 29 #[.int .u64 n, .int .i64 size] w fun e w' => ∃ v, e = .returned v ∧ w'.ownsRow w.heap.size 5 1 v size (bcs (Lib.beBytes size n)) ∧ Below w.heap.size w w' := by
  refine calls_hid fun R hR => ?_
  obtain ⟨i0, hi0, hz0, hz1, hz2⟩ := info_parts info5
  go_enter Tryz.func29, Tryz.ntmps29
  go_wp2
  go_loopw [5, 6] (fun v i wr => ∃ r : Nat, r ≤ size ∧ i = .int .i64 ((size : Int) - r - 1) ∧ wr.ownsRow w.heap.size 5 1 v r (bbs n size r) ∧ Below w.heap.size w wr)
     (fun _ i _ => ((intOf i) + 1).toNat)
  case atStart =>
    refine ⟨0, Nat.zero_le _, by simp, ?_, (Below.refl _ _).alloc (Nat.le_refl _) _⟩
    rw [bbs_zero]
    exact World.ownsRow_made _ _ _ (Nat.le_refl _) (by simp [maxLen]) (by simp)
  case round =>
    obtain ⟨r, hr, rfl, hown, hb⟩ := hrel
    have HO := Lib.hid hown
    clear hown
    by_cases hlt : r < size
    · have hbs := hb.size
      go_wp2_with (at_builtin; refine wpList_append_sl _ rfl (.tmp 14) (.tmp 20) _ rfl w.heap.size 5 i0 _ 1 Tryz.underlying25 hi0 hz0 hz1 hz2 rfl _ r (bbs n size r) rfl (HO.out.alloc _) (wr.heap.size + 1) (some ⟨wr.heap.size, 0, none⟩) 1 1 [.int .u8 ((n : Int) / 2 ^ (8 * (size - r - 1)) % 256)] rfl (Sl.of_cells rfl (by omega) (by intro j u hj; match j, hj with | 0, hj => simp at hj; subst hj; simp)) (by intro u hu; simp at hu; subst hu; rfl) (by simp only [maxLen]; omega) (by omega) (by simp; omega) ?_; intro v1 w1 ho1 hg1 hv1)
      go_roundw
      case rel =>
        refine ⟨r + 1, by omega, by congr 1; omega, ?_, ?_⟩
        · rw [bbs_succ n size r hlt]; exact ho1.out
        · exact (hb.alloc hbs _).grown hg1 (by simp; omega) (fun k hk => (HO.out.lt k hk).1)
      case measure => simp [intOf]; omega
    · obtain rfl : r = size := by omega
      go_wp2
      rw [bbs_full] at HO
      exact hR.out _ _ ⟨_, rfl, HO.out, hb⟩

set_option maxRecDepth 100000 in
/-- spec.Write's put: the bytes of a number are appended to what the variable holds. -/
theorem put_any (n : Nat) (size : Nat) (go k : Nat) (v : Value) (xs : List Value) (base : Nat) (w : World) (hs : size ≤ 8) (hk : k ≤ 100000) (ho : Bk w go 25 [v]) (hown : w.ownsRow base 5 1 v k xs) (hb : base ≤ w.heap.size) :
    Calls Tryz.prog 28 #[.int .u64 n, .int .i64 size, .pointer (some ⟨go, 0, none⟩)] w fun e w' =>
      e = .returned (.tuple #[]) ∧ ∃ v', Bk w' go 25 [v'] ∧ w'.ownsRow base 5 1 v' (k + size) (xs ++ bcs (Lib.beBytes size n)) ∧ (base ≤ go → Below base w w') := by
  refine calls_hid fun R hR => ?_
  obtain ⟨i0, hi0, hz0, hz1, hz2⟩ := info_parts info5
  obtain ⟨A0, cp0, rfl, _, _, _⟩ := own_form hown
  have c0 : w.cell? ⟨go, 0, none⟩ = some (.slice A0 k cp0) := by rw [ho.cell]; rfl
  have hne := own_blk_ne hown ho (by decide)
  have HB := Lib.hid ho
  have HO := Lib.hid hown
  have HNE := Lib.hid hne
  have hgo := ho.lt
  clear hown ho hne
  go_enter Tryz.func28, Tryz.ntmps28
  go_wp2_with fail
  go_region_law (first | (refine step_append_sl _ rfl (.tmp 5) (.tmp 8) _ rfl base 5 i0 _ 1 Tryz.underlying25 hi0 hz0 hz1 hz2 rfl (.slice A0 k cp0) k xs (by rfl) (own_below HO.out hb1) _ A1 size cp1 (bcs (Lib.beBytes size n)) (by rfl) HS1.out bcs_one (by simp only [maxLen]; omega) (by omega) (Nat.le_trans hb hb1.size) ?_; intro v2 w2 ho2 hg2 hv2; obtain ⟨A2, cp2, hv2', _, _, _⟩ := own_form ho2.out; rw [hv2']; have c2 : w2.cell? ⟨go, 0, none⟩ = some (.slice A0 k cp0) := hg2.cell c1 (fun e => HNE.out e.symm); have f2 : w2.frozen? ⟨go, 0, none⟩ = false := (World.frozen?_of_block (hg2.block go (Nat.lt_of_lt_of_le hgo hb1.size) (fun e => HNE.out e.symm))).trans ((hb1.frozen (p := ⟨go, 0, none⟩) hgo).trans (HB.out.frozen 0))) | (go_simp; go_at_call 29; refine (bytes_any _ _ _ hs).mono ?_; rintro e w1 ⟨v1, rfl, ho1, hb0⟩; have hb1 : Below w.heap.size w w1 := below_undrew hb0; clear hb0; obtain ⟨A1, cp1, hv1, hcc, hs1, hn1⟩ := own_form ho1; rw [hv1]; have HO1 := Lib.hid ho1; have HS1 := Lib.hid hs1; have c1 : w1.cell? ⟨go, 0, none⟩ = some (.slice A0 k cp0) := (hb1.cell (p := ⟨go, 0, none⟩) hgo).trans c0; clear ho1 hs1 hn1 hv1))
  all_goals
    go_end0
    have hb2 : base ≤ go → Below base w1 w2 := fun h => Below.grown (Below.refl _ _) hg2 (Nat.le_trans hb hb1.size) (fun k hk => ((HO.out.lt k hk).1))
    have hB2 : Bk w2 go 25 [Value.slice A0 k cp0] := (HB.out.below hb1 hgo).grown hg2 (fun e => HNE.out e.symm)
    have ho3 := ho2.out
    rw [hv2'] at ho3
    refine hR.out _ _ ⟨rfl, Value.slice A2 (k + size) cp2, by simpa using hB2.set_ 0 (Value.slice A2 (k + size) cp2), ?_, fun h => ((hb1.mono hb).trans (hb2 h)).setCell h _⟩
    have hne2 : (Value.slice A2 (k + size) cp2).ownBlock ≠ some go := own_blk_ne ho3 hB2 (by decide)
    exact ho3.kept (row := some go) ⟨rfl, rfl, rfl, by simp, fun i hi hn => Below.heap_setCell _ _ _ _ (fun e => hn (by rw [e]))⟩ (.inr hne2)
end Go.Proofs.YtphmklgbbpiafaaGreat
