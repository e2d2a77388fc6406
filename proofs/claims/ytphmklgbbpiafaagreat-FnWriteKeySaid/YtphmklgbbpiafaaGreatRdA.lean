/-
  Words on layers that are handed back: where their memory lies, and that it stands while another block is written. No condition.
-/
import Derived.Test.YtphmklgbbpiafaaGreatCutA
import Derived.Test.YtphmklgbbpiafaaGreatTakA
namespace Go.Proofs.YtphmklgbbpiafaaGreat
open Go Go.RowKit
set_option linter.unusedVariables false

/-- A slice's memory lies below B0 or from B1 on. -/
def Fr2 (B0 B1 : Nat) (A : Option Addr) : Prop := ∀ q, A = some q → q.block < B0 ∨ B1 ≤ q.block
theorem Fr2.nil (B0 B1 : Nat) : Fr2 B0 B1 none := fun q h => by cases h
theorem Fr2.new {B0 B1 g o : Nat} (h : B1 ≤ g) : Fr2 B0 B1 (some ⟨g, o, none⟩) := fun q e => by cases e; exact .inr h
theorem Fr2.old {B0 B1 g o : Nat} (h : g < B0) : Fr2 B0 B1 (some ⟨g, o, none⟩) := fun q e => by cases e; exact .inl h
theorem Fr2.of_fr {B0 B1 B : Nat} {A : Option Addr} (h : Fr B A) (hB : B1 ≤ B) : Fr2 B0 B1 A := fun q e => .inr (Nat.le_trans hB (h q e))
theorem Fr2.more {B0 B1 B0' B1' : Nat} {A : Option Addr} (h : Fr2 B0 B1 A) (h0 : B0 ≤ B0') (h1 : B1' ≤ B1) : Fr2 B0' B1' A := fun q e => (h q e).imp (fun h => by omega) (fun h => by omega)
theorem Sl.grown_ {w w' : World} {B n g : Nat} {A : Option Addr} {xs : List Value} (h : Sl w B A n xs) (hg : w.grownBy w' (some g)) (hB : B ≤ w.heap.size) (hA : ∀ q, A = some q → q.block ≠ g) : Sl w' B A n xs :=
  ⟨h.1, fun hn => by
    obtain ⟨g', o, e, hb, hc⟩ := h.2 hn
    have hne := hA _ e
    exact ⟨g', o, e, hb, fun j v hv => (World.cell?_of_block (hg.block g' (by omega) (by simpa using hne))).trans (hc j v hv)⟩⟩
/-- The cells ds are slices that hold the byte lists 'data', below B0 or from B1 on. -/
def EachF (w : World) (B B0 B1 : Nat) (ds : List Value) (data : List (List UInt8)) : Prop :=
  ds.length = data.length ∧ ∀ (i : Nat) (d : List UInt8), data[i]? = some d → ∃ (A : Option Addr) (c : Nat), ds[i]? = some (Value.slice A d.length c) ∧ Sl w B A d.length (bcs d) ∧ Fr2 B0 B1 A
/-- A layer whose memory lies below B0 or from B1 on. -/
def LyrF (w : World) (B B0 B1 : Nat) (v : Value) (nums : List Nat) (data : List (List UInt8)) (pay : List UInt8) : Prop :=
  ∃ AN cN AD cD AP cP AB cB ds, v = Value.agg #[.slice AN nums.length cN, .slice AD data.length cD, .slice AP 0 cP, .slice AB pay.length cB] ∧
    Sl w B AN nums.length (ncs nums) ∧ Sl w B AD data.length ds ∧ EachF w B B0 B1 ds data ∧ Sl w B AB pay.length (bcs pay) ∧ Fr2 B0 B1 AN ∧ Fr2 B0 B1 AD ∧ Fr2 B0 B1 AB
theorem EachF.nil (w : World) (B B0 B1 : Nat) : EachF w B B0 B1 [] [] := ⟨rfl, fun i d hd => by simp at hd⟩
theorem EachF.cons {w : World} {B B0 B1 : Nat} {ds : List Value} {data : List (List UInt8)} {d : List UInt8} {A : Option Addr} {c : Nat} (h : EachF w B B0 B1 ds data) (h1 : Sl w B A d.length (bcs d)) (h2 : Fr2 B0 B1 A) : EachF w B B0 B1 (Value.slice A d.length c :: ds) (d :: data) := by
  refine ⟨by simp [h.1], fun i e he => ?_⟩
  cases i with
  | zero => simp at he; subst he; exact ⟨A, c, by simp, h1, h2⟩
  | succ i => simp at he; simpa using h.2 i e he
section
variable {w w' : World} {B B0 B1 : Nat} {ds : List Value} {data : List (List UInt8)} {v : Value} {nums : List Nat} {pay : List UInt8}
theorem LyrF.lyr (h : LyrF w B B0 B1 v nums data pay) : Lyr w B v nums data pay := by
  obtain ⟨AN, cN, AD, cD, AP, cP, AB, cB, ds, hv, h1, h2, h3, h4, _⟩ := h
  exact ⟨AN, cN, AD, cD, AP, cP, AB, cB, ds, hv, h1, h2, ⟨h3.1, fun i d hd => let ⟨A, c, a1, a2, _⟩ := h3.2 i d hd; ⟨A, c, a1, a2⟩⟩, h4⟩
theorem LyrF.grown {g : Nat} (h : LyrF w B B0 B1 v nums data pay) (hg : w.grownBy w' (some g)) (hB : B ≤ w.heap.size) (h0 : B0 ≤ g) (h1 : g < B1) : LyrF w' B B0 B1 v nums data pay := by
  obtain ⟨AN, cN, AD, cD, AP, cP, AB, cB, ds, hv, q1, q2, q3, q4, f1, f2, f3⟩ := h
  have hne : ∀ {A : Option Addr}, Fr2 B0 B1 A → ∀ q, A = some q → q.block ≠ g := fun hf q e => by have := hf q e; omega
  exact ⟨AN, cN, AD, cD, AP, cP, AB, cB, ds, hv, q1.grown_ hg hB (hne f1), q2.grown_ hg hB (hne f2), ⟨q3.1, fun i d hd => let ⟨A, c, a1, a2, a3⟩ := q3.2 i d hd; ⟨A, c, a1, a2.grown_ hg hB (hne a3), a3⟩⟩, q4.grown_ hg hB (hne f3), f1, f2, f3⟩
theorem LyrF.below (h : LyrF w B B0 B1 v nums data pay) (hb : Below B w w') : LyrF w' B B0 B1 v nums data pay := by
  obtain ⟨AN, cN, AD, cD, AP, cP, AB, cB, ds, hv, q1, q2, q3, q4, f1, f2, f3⟩ := h
  exact ⟨AN, cN, AD, cD, AP, cP, AB, cB, ds, hv, q1.below hb, q2.below hb, ⟨q3.1, fun i d hd => let ⟨A, c, a1, a2, a3⟩ := q3.2 i d hd; ⟨A, c, a1, a2.below hb, a3⟩⟩, q4.below hb, f1, f2, f3⟩
theorem LyrF.more {B' B0' B1' : Nat} (h : LyrF w B B0 B1 v nums data pay) (hB : B ≤ B') (h0 : B0 ≤ B0') (h1 : B1' ≤ B1) : LyrF w B' B0' B1' v nums data pay := by
  obtain ⟨AN, cN, AD, cD, AP, cP, AB, cB, ds, hv, q1, q2, q3, q4, f1, f2, f3⟩ := h
  exact ⟨AN, cN, AD, cD, AP, cP, AB, cB, ds, hv, q1.more hB, q2.more hB, ⟨q3.1, fun i d hd => let ⟨A, c, a1, a2, a3⟩ := q3.2 i d hd; ⟨A, c, a1, a2.more hB, a3.more h0 h1⟩⟩, q4.more hB, f1.more h0 h1, f2.more h0 h1, f3.more h0 h1⟩
theorem LyrF.mk {AN AD AP AB : Option Addr} {k cN m cD cP p cB : Nat} (h1 : Sl w B AN k (ncs nums)) (h2 : Sl w B AD m ds) (h3 : EachF w B B0 B1 ds data) (h4 : Sl w B AB p (bcs pay)) (f1 : Fr2 B0 B1 AN) (f2 : Fr2 B0 B1 AD) (f3 : Fr2 B0 B1 AB) :
    LyrF w B B0 B1 (.agg #[.slice AN k cN, .slice AD m cD, .slice AP 0 cP, .slice AB p cB]) nums data pay := by
  have e1 : nums.length = k := by rw [← ncs_length]; exact h1.1
  have e2 : data.length = m := by rw [← h3.1]; exact h2.1
  have e3 : pay.length = p := by rw [← bcs_length]; exact h4.1
  subst e1; subst e2; subst e3
  exact ⟨AN, cN, AD, cD, AP, cP, AB, cB, ds, rfl, h1, h2, h3, h4, f1, f2, f3⟩
theorem LyrF.plain {AN AB : Option Addr} {k cN p cB : Nat} (h1 : Sl w B AN k (ncs nums)) (h4 : Sl w B AB p (bcs pay)) (f1 : Fr2 B0 B1 AN) (f3 : Fr2 B0 B1 AB) :
    LyrF w B B0 B1 (.agg #[.slice AN k cN, .slice none 0 0, .slice none 0 0, .slice AB p cB]) nums [] pay :=
  LyrF.mk h1 (Sl.none_ _ _ _) (EachF.nil _ _ _ _) h4 f1 (Fr2.nil _ _) f3
end
/-- Four cells of a block are written. -/
def set4 (w : World) (g : Nat) (a b c d : Value) : World := (((w.setCell ⟨g, 0, none⟩ a).setCell ⟨g, 1, none⟩ b).setCell ⟨g, 2, none⟩ c).setCell ⟨g, 3, none⟩ d
theorem set4_size (w : World) (g : Nat) (a b c d : Value) : (set4 w g a b c d).heap.size = w.heap.size := by simp [set4]
theorem set4_grown (w : World) (g : Nat) (a b c d : Value) : w.grownBy (set4 w g a b c d) (some g) := by
  refine only_set ?_ (.inl rfl) _
  refine only_set ?_ (.inl rfl) _
  refine only_set ?_ (.inl rfl) _
  refine only_set ?_ (.inl rfl) _
  exact grownBy_refl' _ _
theorem set4_below {B : Nat} {w0 w : World} (h : Below B w0 w) (g : Nat) (hg : B ≤ g) (a b c d : Value) : Below B w0 (set4 w g a b c d) := by
  refine Below.setCell ?_ hg _
  refine Below.setCell ?_ hg _
  refine Below.setCell ?_ hg _
  refine Below.setCell ?_ hg _
  exact h
theorem set4_bk {w : World} {g : Nat} {t : TypeId} {c0 c1 c2 c3 : Value} (h : Bk w g t [c0, c1, c2, c3]) (a b c d : Value) : Bk (set4 w g a b c d) g t [a, b, c, d] :=
  (((h.set_ 0 a).set_ 1 b).set_ 2 c).set_ 3 d
/-- The four cells behind the stores, spelled as the walk spells them. -/
theorem set4_cells {w : World} {g : Nat} {t : TypeId} {c0 c1 c2 c3 : Value} (h : Bk w g t [c0, c1, c2, c3]) (a b c d : Value) :
    ((((w.setCell ⟨g, 0, none⟩ a).setCell ⟨g, 1, none⟩ b).setCell ⟨g, 2, none⟩ c).setCell ⟨g, 3, none⟩ d).cell? ⟨g, 0, none⟩ = some a ∧
    ((((w.setCell ⟨g, 0, none⟩ a).setCell ⟨g, 1, none⟩ b).setCell ⟨g, 2, none⟩ c).setCell ⟨g, 3, none⟩ d).cell? ⟨g, 1, none⟩ = some b ∧
    ((((w.setCell ⟨g, 0, none⟩ a).setCell ⟨g, 1, none⟩ b).setCell ⟨g, 2, none⟩ c).setCell ⟨g, 3, none⟩ d).cell? ⟨g, 2, none⟩ = some c ∧
    ((((w.setCell ⟨g, 0, none⟩ a).setCell ⟨g, 1, none⟩ b).setCell ⟨g, 2, none⟩ c).setCell ⟨g, 3, none⟩ d).cell? ⟨g, 3, none⟩ = some d :=
  ⟨(set4_bk h a b c d).cell 0, (set4_bk h a b c d).cell 1, (set4_bk h a b c d).cell 2, (set4_bk h a b c d).cell 3⟩
theorem Sl.new {w : World} {t : TypeId} {cs : List Value} {n : Nat} (hn : cs.length = n) : Sl (w.alloc (.cells cs.toArray t)) (w.heap.size + 1) (some ⟨w.heap.size, 0, none⟩) n cs :=
  Sl.of_cells hn (by omega) fun j u hu => by rw [Nat.zero_add]; exact ((Bk.new w t cs).cell j).trans hu
theorem Sl.cast {w : World} {B n : Nat} {A : Option Addr} {xs ys : List Value} (h : Sl w B A n xs) (e : xs = ys) : Sl w B A n ys := e ▸ h
theorem cut_fr {g o k B0 B1 : Nat} {A' : Option Addr} (hg : g < B0) (h : A' = some ⟨g, o, none⟩ ∨ A' = some ⟨g, o + k, none⟩) : Fr2 B0 B1 A' := by
  rcases h with rfl | rfl <;> exact Fr2.old hg
/-- The end of a reader's walk: the layer is stored into the result's block b. -/
theorem read_end {w wb : World} {b B0 B1 : Nat} {v0 v1 v2 v3 : Value} {nums : List Nat} {data : List (List UInt8)} {pay : List UInt8} (hl : LyrF wb wb.heap.size B0 B1 (.agg #[v0, v1, v2, v3]) nums data pay) (hb : Below w.heap.size w wb) (h0 : B0 ≤ b) (h1 : b < B1) (hw : w.heap.size ≤ b) :
    Below w.heap.size w (set4 wb b v0 v1 v2 v3) ∧ LyrF (set4 wb b v0 v1 v2 v3) (set4 wb b v0 v1 v2 v3).heap.size B0 B1 (.agg #[v0, v1, v2, v3]) nums data pay := by
  refine ⟨set4_below hb b hw _ _ _ _, ?_⟩
  rw [set4_size]
  exact hl.grown (set4_grown _ _ _ _ _ _) (Nat.le_refl _) h0 h1
end Go.Proofs.YtphmklgbbpiafaaGreat
