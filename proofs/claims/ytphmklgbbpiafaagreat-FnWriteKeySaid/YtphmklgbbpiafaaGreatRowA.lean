/-
  A layer that came in, as the law's row reads it: its numbers, its byte lists, its parts, what stands behind. No condition.
-/
import Derived.ProofKit
import Derived.Lib.SmallJoins
import Derived.Deep.Slices
import Derived.OpenShut
import Derived.Test.YtphmklgbbpiafaaGreatWrtA
namespace Go.Proofs.YtphmklgbbpiafaaGreat
open Go Go.RowKit Go.ChangeShapes Go.WideShapes Go.Joins
set_option linter.unusedVariables false
set_option linter.unusedSimpArgs false

section
variable {H : Type} {enc : TypeId × Value → H} {w : World} {fuel : Nat} {v : Value} {x : DataW H × List MemPlace}
theorem cells46 : Tryz.prog.cellsOf 46 = 1 := by kernel_rfl
theorem cells5 : Tryz.prog.cellsOf 5 = 1 := by kernel_rfl
theorem cells25 : Tryz.prog.cellsOf 25 = 1 := by kernel_rfl
theorem cells22 : Tryz.prog.cellsOf 22 = 1 := by kernel_rfl
theorem cells41 : Tryz.prog.cellsOf 41 = 2 := by kernel_rfl
theorem cells27 : Tryz.prog.cellsOf 27 = 4 := by kernel_rfl
theorem getD_map_toNat (zs : List Int) (i : Nat) : (zs.map Int.toNat).getD i 0 = (zs.getD i 0).toNat := by
  by_cases hi : i < zs.length
  · simp [List.getD, List.getElem?_eq_getElem hi]
  · simp [List.getD, List.getElem?_eq_none (Nat.le_of_not_lt hi)]
theorem open_nums (h : DataW.trod enc Tryz.prog w 0 (fun _ => true) true fuel 22 [v] = some x) :
    ∃ (A : Option Addr) (n c : Nat) (nums : List Nat), v = .slice A n c ∧ nums.length = n ∧ n ≤ maxLen ∧ (∀ i, nums.getD i 0 < 2 ^ 64) ∧ Sl w w.heap.size A n (ncs nums) := by
  rcases open_ints Tryz.underlying22 Tryz.underlying46 cells46 h with ⟨hcs, _⟩ | ⟨a, len, cap, zs, hcs, _, hl, hm, hz, _, hcell, hwz⟩
  · obtain rfl : v = .slice none 0 0 := by simpa using hcs
    exact ⟨none, 0, 0, [], rfl, rfl, Nat.zero_le _, fun i => by simp, Sl.none_ _ _ _⟩
  · obtain rfl : v = .slice (some a) len cap := by simpa using hcs
    simp only [if_true] at hz
    have hb : ∀ i, i < zs.length → 0 ≤ zs.getD i 0 ∧ zs.getD i 0 < 2 ^ 64 := fun i hi => by
      have := bounds_u64 (hwz (zs.getD i 0) (by simp [List.getD, List.getElem?_eq_getElem hi]))
      omega
    have hlen : ((zs.take len).map Int.toNat).length = len := by simp; omega
    refine ⟨some a, len, cap, (zs.take len).map Int.toNat, rfl, hlen, by omega, fun i => ?_, by rw [ncs_length]; exact hlen, fun hn => ?_⟩
    · rw [getD_map_toNat]
      by_cases hi : i < len
      · have := hb i (by omega)
        have e : (zs.take len).getD i 0 = zs.getD i 0 := by simp [List.getD, List.getElem?_take, hi]
        rw [e]; omega
      · have e : (zs.take len).getD i 0 = 0 := by simp [List.getD, List.getElem?_take, hi]
        rw [e]; decide
    · obtain ⟨g, o, sp⟩ := a
      have h0 := hcell 0 (by omega)
      have hsp : sp = none := by simpa [Addr.add] using World.cell?_spot h0
      subst hsp
      refine ⟨g, o, rfl, by simpa [Addr.add] using World.block_lt_of_cell? w _ h0, fun j u hu => ?_⟩
      have hj : j < len := by
        have := (List.getElem?_eq_some_iff.1 hu).1
        rw [ncs_length, hlen] at this; exact this
      have hc := hcell j (by omega)
      rw [Addr.add_lit] at hc
      rw [hc, ← hu, ncs, List.getElem?_map, List.getElem?_map, List.getElem?_take, if_pos hj, List.getElem?_eq_getElem (by omega)]
      have := hb j (by omega)
      have e : zs.getD j 0 = zs[j]'(by omega) := by simp [List.getD, List.getElem?_eq_getElem (show j < zs.length by omega)]
      rw [e] at this ⊢
      simp
      omega
theorem open_bytes (h : DataW.trod enc Tryz.prog w 0 (fun _ => true) true fuel 25 [v] = some x) :
    ∃ (A : Option Addr) (n c : Nat) (xs : List UInt8), v = .slice A n c ∧ xs.length = n ∧ n ≤ maxLen ∧ Sl w w.heap.size A n (bcs xs) := by
  rcases open_ints Tryz.underlying25 Tryz.underlying5 cells5 h with ⟨hcs, _⟩ | ⟨a, len, cap, zs, hcs, _, hl, hm, hz, _, hcell, hwz⟩
  · obtain rfl : v = .slice none 0 0 := by simpa using hcs
    exact ⟨none, 0, 0, [], rfl, rfl, Nat.zero_le _, Sl.none_ _ _ _⟩
  · obtain rfl : v = .slice (some a) len cap := by simpa using hcs
    simp only [if_true] at hz
    have hb : ∀ i, i < zs.length → 0 ≤ zs.getD i 0 ∧ zs.getD i 0 < 2 ^ 8 := fun i hi => by
      have := bounds_u8 (hwz (zs.getD i 0) (by simp [List.getD, List.getElem?_eq_getElem hi]))
      omega
    have hlen : ((zs.take len).map fun z => UInt8.ofNat z.toNat).length = len := by simp; omega
    refine ⟨some a, len, cap, (zs.take len).map fun z => UInt8.ofNat z.toNat, rfl, hlen, by omega, by rw [bcs_length]; exact hlen, fun hn => ?_⟩
    obtain ⟨g, o, sp⟩ := a
    have h0 := hcell 0 (by omega)
    have hsp : sp = none := by simpa [Addr.add] using World.cell?_spot h0
    subst hsp
    refine ⟨g, o, rfl, by simpa [Addr.add] using World.block_lt_of_cell? w _ h0, fun j u hu => ?_⟩
    have hj : j < len := by
      have := (List.getElem?_eq_some_iff.1 hu).1
      rw [bcs_length, hlen] at this; exact this
    have hc := hcell j (by omega)
    rw [Addr.add_lit] at hc
    rw [hc, ← hu, bcs, List.getElem?_map, List.getElem?_map, List.getElem?_take, if_pos hj, List.getElem?_eq_getElem (by omega)]
    have := hb j (by omega)
    have e : zs.getD j 0 = zs[j]'(by omega) := by simp [List.getD, List.getElem?_eq_getElem (show j < zs.length by omega)]
    rw [e] at this ⊢
    simp [UInt8.toNat_ofNat']
    omega
theorem open_data (h : DataW.trod enc Tryz.prog w 0 (fun _ => true) true fuel 23 [v] = some x) :
    ∃ (A : Option Addr) (n c : Nat) (ds : List Value) (data : List (List UInt8)), v = .slice A n c ∧ data.length = n ∧ n ≤ maxLen ∧ (∀ i, (data.getD i []).length ≤ maxLen) ∧ Sl w w.heap.size A n ds ∧ Each w w.heap.size ds data := by
  rcases Deep.open_slice1 Tryz.underlying23 cells25 h with ⟨hcs, _⟩ | ⟨a, len, cap, m, k, V, D, Pl, hcs, _, hl, hm, hmm, _, hx⟩
  · obtain rfl : v = .slice none 0 0 := by simpa using hcs
    exact ⟨none, 0, 0, [], [], rfl, rfl, Nat.zero_le _, fun i => by simp, Sl.none_ _ _ _, Each.nil _ _⟩
  · obtain rfl : v = .slice (some a) len cap := by simpa using hcs
    simp only [if_true] at hmm
    have hd : ∀ i, i < len → ∃ xs : List UInt8, ∃ A c, V i = .slice A xs.length c ∧ xs.length ≤ maxLen ∧ Sl w w.heap.size A xs.length (bcs xs) := fun i hi => by
      obtain ⟨A, n, c, xs, h1, rfl, h2, h3⟩ := open_bytes (hx i (by omega)).2
      exact ⟨xs, A, c, h1, h2, h3⟩
    obtain ⟨X, hX⟩ := Deep.choose_lt (α := List UInt8) hd
    have hlen : ((List.range len).map X).length = len := by simp
    have hlen2 : ((List.range len).map V).length = len := by simp
    refine ⟨some a, len, cap, (List.range len).map V, (List.range len).map X, rfl, hlen, by omega, fun i => ?_, ⟨hlen2, fun hn => ?_⟩, hlen2.trans hlen.symm, fun i d hd => ?_⟩
    · by_cases hi : i < len
      · obtain ⟨_, _, _, h2, _⟩ := hX i hi
        simpa [List.getD, hi] using h2
      · simp [List.getD, hi]
    · obtain ⟨g, o, sp⟩ := a
      have h0 := (hx 0 (by omega)).1
      have hsp : sp = none := by simpa [Addr.add] using World.cell?_spot h0
      subst hsp
      refine ⟨g, o, rfl, by simpa [Addr.add] using World.block_lt_of_cell? w _ h0, fun j u hu => ?_⟩
      have hj : j < len := by
        have := (List.getElem?_eq_some_iff.1 hu).1
        rwa [hlen2] at this
      have hc := (hx j (by omega)).1
      rw [Addr.add_lit] at hc
      rw [hc]
      simpa [hj] using hu
    · have hi : i < len := by
        have := (List.getElem?_eq_some_iff.1 hd).1
        rwa [hlen] at this
      have e : d = X i := by simpa [hi] using hd.symm
      subst e
      obtain ⟨A, c, h1, _, h3⟩ := hX i hi
      exact ⟨A, c, by simp [hi, h1], h3⟩
theorem slice_shape {t e : TypeId} (ht : Tryz.prog.underlying t = some (.slice e)) (h : DataW.trod enc Tryz.prog w 0 (fun _ => true) true fuel t [v] = some x) : ∃ A n c, v = .slice A n c := by
  rcases Deep.open_slice ht h with ⟨hcs, _⟩ | ⟨a, len, cap, _, _, _, _, hcs, _⟩
  · exact ⟨none, 0, 0, by simpa using hcs⟩
  · exact ⟨some a, len, cap, by simpa using hcs⟩
theorem open_parts (h : DataW.trod enc Tryz.prog w 0 (fun _ => true) true fuel 24 [v] = some x) :
    ∃ A n c, v = .slice A n c ∧ AnyP w w.heap.size A n := by
  rcases Deep.open_slice Tryz.underlying24 h with ⟨hcs, _⟩ | ⟨a, len, cap, m, k, D, Pl, hcs, _, hl, hm, hmm, _, hx⟩
  · obtain rfl : v = .slice none 0 0 := by simpa using hcs
    exact ⟨none, 0, 0, rfl, fun h => absurd h (by omega)⟩
  · obtain rfl : v = .slice (some a) len cap := by simpa using hcs
    simp only [if_true] at hmm
    rw [cells41] at hx
    refine ⟨some a, len, cap, rfl, fun hn => ?_⟩
    have two : ∀ i, i < len → ∃ P m c P' m' c', w.cell? (a.add (i * 2)) = some (.slice P m c) ∧ w.cell? (a.add (i * 2 + 1)) = some (.slice P' m' c') := fun i hi => by
      obtain ⟨cs', h1, h2⟩ := hx i (by omega)
      obtain ⟨_, hlen, hc⟩ := World.cells?_some h1
      match cs', hlen with
      | [u0, u1], _ =>
      obtain ⟨y0, y1, q, _, _, k0, k1⟩ := trod_struct2 Tryz.underlying41 h2
      have k0' : DataW.trod enc Tryz.prog w 0 (fun _ => true) true q 22 [u0] = some y0 := by simpa [cells22] using k0
      have k1' : DataW.trod enc Tryz.prog w 0 (fun _ => true) true q 25 [u1] = some y1 := by simpa [cells25] using k1
      obtain ⟨P, m, c, rfl⟩ := slice_shape Tryz.underlying22 k0'
      obtain ⟨P', m', c', rfl⟩ := slice_shape Tryz.underlying25 k1'
      have e0 := hc 0 (by omega)
      have e1 := hc 1 (by omega)
      rw [Deep.add_add] at e0 e1
      exact ⟨P, m, c, P', m', c', by simpa using e0, by simpa using e1⟩
    obtain ⟨g, o, sp⟩ := a
    obtain ⟨_, _, _, _, _, _, h0, _⟩ := two 0 (by omega)
    have hsp : sp = none := by simpa [Addr.add] using World.cell?_spot h0
    subst hsp
    refine ⟨g, o, rfl, by simpa [Addr.add] using World.block_lt_of_cell? w _ h0, fun i hi => ?_⟩
    obtain ⟨P, m, c, P', m', c', e0, e1⟩ := two i hi
    rw [Addr.add_lit] at e0 e1
    exact ⟨P, m, c, P', m', c', by rw [Nat.mul_comm 2 i]; exact e0, by rw [Nat.mul_comm 2 i, Nat.add_assoc]; exact e1⟩
end
end Go.Proofs.YtphmklgbbpiafaaGreat
