/-
  Contracts of bytes.Equal, slices.Equal, slices.EqualFunc and same, where both sides hold the same; of the reference's Number and layer. No condition.
-/
import Derived.Laws.IdiomStrings
import Derived.Laws.BytesArg
import Derived.Test.YtphmklgbbpiafaaGreatSerB
namespace Go.Proofs.YtphmklgbbpiafaaGreat
open Go Go.RowKit
set_option linter.unusedVariables false
attribute [local go_sem] sd_drewN ad_drewN

theorem Sl.num {w : World} {B g o n : Nat} {xs : List Nat} (hs : Sl w B (some ⟨g, o, none⟩) n (ncs xs)) {k : Nat} (hk : k < n) :
    w.cell? ⟨g, o + k, none⟩ = some (.int .u64 (xs.getD k 0 : Nat)) := by
  have hl := hs.1
  rw [ncs_length] at hl
  obtain ⟨_, hc⟩ := hs.at_ (by omega)
  refine hc k _ ?_
  rw [ncs, List.getElem?_map, List.getElem?_eq_getElem (by omega)]
  simp [List.getD, List.getElem?_eq_getElem (show k < xs.length by omega)]

/-- 'string(b)' of bytes that a slice holds. -/
theorem conv_sl (A : Option Addr) (n c B : Nat) (xs : List UInt8) (w : World) (hs : Sl w B A n (bcs xs)) :
    (convert 25 9 (.slice A n c)).run Tryz.prog w = .ok (.string ⟨xs.toArray⟩) w := by
  have hl : xs.length = n := by rw [← bcs_length]; exact hs.1
  rcases Nat.eq_zero_or_pos n with rfl | hn
  · have e : xs = [] := List.eq_nil_of_length_eq_zero hl
    subst e
    rcases A with _ | A
    · rw [run_convert_bytes_string w 25 9 5 none 0 c Tryz.underlying25 Tryz.underlying5 Tryz.underlying9]
      simp [Conv.bytesToString]
      rfl
    · have := run_convert_bytes_back (P := Tryz.prog) w 25 9 5 A c [] Tryz.underlying25 Tryz.underlying5 Tryz.underlying9 (fun j hj => absurd hj (by simp))
      exact this
  · subst hl
    obtain ⟨g, o, rfl, _, hc⟩ := hs.2 hn
    refine run_convert_bytes_back (P := Tryz.prog) w 25 9 5 ⟨g, o, none⟩ c xs Tryz.underlying25 Tryz.underlying5 Tryz.underlying9 (fun j hj => ?_)
    rw [Addr.add_lit]
    refine hc j _ ?_
    simp [bcs, List.getElem?_eq_getElem hj]

set_option maxRecDepth 100000 in
/-- bytes.Equal of the same bytes. -/
theorem bytesEq (A A' : Option Addr) (n c c' B B' : Nat) (xs : List UInt8) (w : World) (h1 : Sl w B A n (bcs xs)) (h2 : Sl w B' A' n (bcs xs)) :
    Calls Tryz.prog 23 #[.slice A n c, .slice A' n c'] w fun e w' => e = .returned (.bool true) ∧ w = w' := by
  refine calls_hid fun R hR => ?_
  have e1 := conv_sl A n c B xs w h1
  have e2 := conv_sl A' n c' B' xs w h2
  clear h1 h2
  go_enter Tryz.func23, Tryz.ntmps23
  go_wp2
  exact hR.out _ _ ⟨rfl, rfl⟩

set_option maxRecDepth 100000 in
/-- slices.Equal of the same numbers. -/
theorem numsEq (A A' : Option Addr) (n c c' B B' : Nat) (xs : List Nat) (w : World) (hn : n ≤ 1000) (h1 : Sl w B A n (ncs xs)) (h2 : Sl w B' A' n (ncs xs)) :
    Calls Tryz.prog 61 #[.slice A n c, .slice A' n c'] w fun e w' => e = .returned (.bool true) ∧ ∃ q, w' = w.drewN q := by
  refine calls_hid fun R hR => ?_
  have H1 := Lib.hid h1
  have H2 := Lib.hid h2
  clear h1 h2
  go_enter Tryz.func61, Tryz.ntmps61
  go_wp2_with fail
  go_loopw [13] (fun i wr => ∃ k q : Nat, k ≤ n ∧ i = .int .i64 k ∧ wr = w.drewN q) (fun i _ => n - (intOf i).toNat)
  case atStart => exact ⟨0, 0, by omega, rfl, rfl⟩
  case round =>
    obtain ⟨k, q, hk, rfl, rfl⟩ := hrel
    by_cases hlt : k < n
    · obtain ⟨g, o, rfl, _, _⟩ := H1.out.2 (by omega)
      obtain ⟨g', o', rfl, _, _⟩ := H2.out.2 (by omega)
      have c1 := H1.out.num hlt
      have c2 := H2.out.num hlt
      go_wp2_with fail
      go_quiet (fail)
      go_wp2
      go_roundw
      case rel => exact ⟨k + 1, _, by omega, by go_num, rfl⟩
      case measure => simp [intOf]; omega
    · go_wp2
      exact hR.out _ _ ⟨rfl, _, rfl⟩

theorem beNat_snoc (l : List UInt8) (b : UInt8) : Lib.beNat (l ++ [b]) = Lib.beNat l * 256 + b.toNat := by
  rw [Lib.beNat_eq, Lib.beNat_eq, List.reverse_append, List.reverse_singleton, List.singleton_append, Lib.leNat]
  omega
theorem beNat_lt (l : List UInt8) : Lib.beNat l < 256 ^ l.length := by
  rw [Lib.beNat_eq, ← List.length_reverse]
  generalize l.reverse = m
  induction m with
  | nil => simp [Lib.leNat]
  | cons b m ih =>
    have := b.toNat_lt
    simp only [Lib.leNat, List.length_cons, Nat.pow_succ]
    omega

set_option maxRecDepth 100000 in
/-- spec.Number. -/
theorem num_sl (A : Option Addr) (n c B : Nat) (xs : List UInt8) (w : World) (hn : n ≤ 8) (hs : Sl w B A n (bcs xs)) :
    Calls Tryz.prog 46 #[.slice A n c] w fun e w' => e = .returned (.int .u64 (Lib.beNat xs : Nat)) ∧ w = w' := by
  refine calls_hid fun R hR => ?_
  have hl : xs.length = n := by rw [← bcs_length]; exact hs.1
  have HS := Lib.hid hs
  have HL := Lib.hid hl
  clear hs hl
  go_enter Tryz.func46, Tryz.ntmps46
  go_wp2_with fail
  go_loop [3, 8] (fun v i => ∃ k : Nat, k ≤ n ∧ i = .int .i64 k ∧ v = .int .u64 (Lib.beNat (xs.take k) : Nat)) (fun _ i => n - (intOf i).toNat)
  case atStart => exact ⟨0, by omega, rfl, rfl⟩
  case round =>
    obtain ⟨k, hk, rfl, rfl⟩ := hrel
    by_cases hlt : k < n
    · obtain ⟨g, o, rfl, _, _⟩ := HS.out.2 (by omega)
      have c1 := HS.out.byte hlt
      have hv : Lib.beNat (xs.take k) < 256 ^ 7 := Nat.lt_of_lt_of_le (beNat_lt _) (Nat.pow_le_pow_right (by omega) (by have := HL.out; simp; omega))
      have hnx : Lib.beNat (xs.take (k + 1)) = Lib.beNat (xs.take k) * 256 + (xs.getD k 0).toNat := by
        have hl := HL.out
        rw [← beNat_snoc, List.take_succ_eq_append_getElem (by omega)]
        simp [List.getD, List.getElem?_eq_getElem (show k < xs.length by omega)]
      have hb := (xs.getD k 0).toNat_lt
      have HN := Lib.hid hnx
      clear hnx
      generalize Lib.beNat (xs.take k) = v at *
      generalize (xs.getD k 0).toNat = b at *
      have hv2 : v < 72057594037927936 := hv
      clear hv
      go_wp2
      simp (disch := omega) only [or64 8]
      go_round
      case rel => exact ⟨k + 1, by omega, by go_num, by rw [HN.out]; go_num⟩
      case measure => simp [intOf]; omega
    · obtain rfl : k = n := by omega
      go_wp2
      have e : xs.take k = xs := List.take_of_length_le (by have := HL.out; omega)
      rw [e]
      exact hR.out _ _ ⟨rfl, rfl⟩

set_option maxRecDepth 100000 in
/-- spec.layer. -/
theorem layer_any (pv nv : Value) (A A' : Option Addr) (n c n' c' : Nat) (hp : pv = .slice A n c) (hv : nv = .slice A' n' c') (w : World) :
    Calls Tryz.prog 45 #[pv, nv] w fun e w' => e = .returned (.agg #[nv, .slice none 0 0, .slice none 0 0, pv]) ∧ Below w.heap.size w w' := by
  refine calls_hid fun R hR => ?_
  subst hp
  subst hv
  go_enter Tryz.func45, Tryz.ntmps45
  go_wp2
  exact bodyPost_ret (v := .agg #[Value.slice A' n' c', .slice none 0 0, .slice none 0 0, Value.slice A n c]) (by simp [results, Tryz.results45, go_sem]) rfl (hR.out _ _ ⟨rfl, (Below.refl _ _).alloc (Nat.le_refl _) _⟩)
end Go.Proofs.YtphmklgbbpiafaaGreat
