/-
  Words on memory that all proofs of this seat share: a slice that reads as a list, a block that is known whole, a layer that reads as numbers and bytes. No condition.
-/
import Derived.Handy
import Derived.Below
import Derived.Laws.OwnMore
import Derived.Laws.AppendOwnNone
import Derived.Laws.CopyOwn
import Derived.Deep.AppendLies
import Derived.Deep.Draws
import Derived.StillTailTactics
import Derived.Deep.QuietTactic
import Derived.BigQuiet
import Derived.Lib.Hide
import Derived.Lib.UnsafeStr
import Derived.Lib.EndianMore
namespace Go.Proofs.YtphmklgbbpiafaaGreat
open Go Go.RowKit

/-- the cells of bytes, of numbers of 64 bits -/
def bcs (l : List UInt8) : List Value := l.map fun (b : UInt8) => Value.int .u8 (b.toNat : Int)
def ncs (l : List Nat) : List Value := l.map fun (n : Nat) => Value.int .u64 (n : Int)
theorem bcs_length (l : List UInt8) : (bcs l).length = l.length := by simp [bcs]
theorem ncs_length (l : List Nat) : (ncs l).length = l.length := by simp [ncs]
theorem bcs_append (a b : List UInt8) : bcs (a ++ b) = bcs a ++ bcs b := by simp [bcs]
theorem bcs_one {l : List UInt8} : ∀ u ∈ bcs l, u.oneCell' = true := by
  intro u hu; simp only [bcs, List.mem_map] at hu; obtain ⟨b, _, rfl⟩ := hu; rfl
theorem ncs_one {l : List Nat} : ∀ u ∈ ncs l, u.oneCell' = true := by
  intro u hu; simp only [ncs, List.mem_map] at hu; obtain ⟨b, _, rfl⟩ := hu; rfl

/-- The slice '.slice A n c' holds the cells xs and lies below block B. -/
def Sl (w : World) (B : Nat) (A : Option Addr) (n : Nat) (xs : List Value) : Prop :=
  xs.length = n ∧ (0 < n → ∃ g o, A = some ⟨g, o, none⟩ ∧ g < B ∧ ∀ j u, xs[j]? = some u → w.cell? ⟨g, o + j, none⟩ = some u)

section
variable {w w' : World} {B B' n : Nat} {A : Option Addr} {xs : List Value}

theorem Sl.keep (h : Sl w B A n xs) (hk : ∀ g, g < B → w'.heap[g]? = w.heap[g]?) : Sl w' B A n xs :=
  ⟨h.1, fun hn => by
    obtain ⟨g, o, e, hb, hc⟩ := h.2 hn
    exact ⟨g, o, e, hb, fun j u hu => (World.cell?_of_block (hk g hb)).trans (hc j u hu)⟩⟩
theorem Sl.more (h : Sl w B A n xs) (hB : B ≤ B') : Sl w B' A n xs :=
  ⟨h.1, fun hn => by
    obtain ⟨g, o, e, hb, hc⟩ := h.2 hn
    exact ⟨g, o, e, by omega, hc⟩⟩
theorem Sl.below (h : Sl w B A n xs) (hb : Below B w w') : Sl w' B A n xs := h.keep hb.block
theorem Sl.none_ (w : World) (B : Nat) (A : Option Addr) : Sl w B A 0 [] := ⟨rfl, fun h => absurd h (by omega)⟩
theorem Sl.at_ {g o : Nat} (h : Sl w B (some ⟨g, o, none⟩) n xs) (hn : 0 < n) : g < B ∧ ∀ j u, xs[j]? = some u → w.cell? ⟨g, o + j, none⟩ = some u := by
  obtain ⟨g', o', e, hb, hc⟩ := h.2 hn
  injection e with e
  injection e with e1 e2
  subst e1; subst e2
  exact ⟨hb, hc⟩
theorem Sl.of_cells {g o : Nat} (hl : xs.length = n) (hg : g < B) (hc : ∀ j u, xs[j]? = some u → w.cell? ⟨g, o + j, none⟩ = some u) : Sl w B (some ⟨g, o, none⟩) n xs :=
  ⟨hl, fun _ => ⟨g, o, rfl, hg, hc⟩⟩
theorem Sl.of_own {base : Nat} {e : TypeId} {c : Nat} (h : w.ownsRow base e 1 (.slice A n c) n xs) : Sl w w.heap.size A n xs := by
  refine ⟨by simpa using h.1, fun hn => ?_⟩
  obtain ⟨g, cap, hv, _, hlt⟩ := h.form hn
  have hA : A = some ⟨g, 0, none⟩ := by injection hv
  subst hA
  refine ⟨g, 0, rfl, hlt, fun j u hu => ?_⟩
  have := h.cells (g := g) rfl j u hu
  simpa [Addr.add_lit] using this
end

/-- Block g is just the cells cs of element type t, none of them frozen. -/
def Bk (w : World) (g : Nat) (t : TypeId) (cs : List Value) : Prop := w.heap[g]? = some (.cells cs.toArray t (0, 0))
section
variable {w w' : World} {g : Nat} {t : TypeId} {cs : List Value}
theorem Bk.lt (h : Bk w g t cs) : g < w.heap.size := by
  rcases Nat.lt_or_ge g w.heap.size with hlt | hge
  · exact hlt
  · unfold Bk at h; rw [Array.getElem?_eq_none hge] at h; cases h
theorem Bk.cell (h : Bk w g t cs) (i : Nat) : w.cell? ⟨g, i, none⟩ = cs[i]? := by
  rw [cell_of_row w g i cs.toArray t (0, 0) h]; simp
theorem Bk.frozen (h : Bk w g t cs) (i : Nat) : w.frozen? ⟨g, i, none⟩ = false := by
  unfold Bk at h
  simp [World.frozen?, h]
theorem Bk.new (w : World) (t : TypeId) (cs : List Value) : Bk (w.alloc (.cells cs.toArray t)) w.heap.size t cs := heap_alloc_new w _
theorem Bk.drewN (h : Bk w g t cs) (n : Nat) : Bk (w.drewN n) g t cs := h
theorem Bk.drew (h : Bk w g t cs) : Bk w.drew g t cs := h
theorem Bk.alloc (h : Bk w g t cs) (o : Obj) : Bk (w.alloc o) g t cs := (Below.heap_alloc w o g h.lt).trans h
theorem Bk.set_ (h : Bk w g t cs) (i : Nat) (u : Value) : Bk (w.setCell ⟨g, i, none⟩ u) g t (cs.set i u) := by
  unfold Bk at h ⊢
  simp [World.setCell, Array.getElem?_modify, h]
theorem Bk.far (h : Bk w g t cs) {p : Addr} (hp : g ≠ p.block) (u : Value) : Bk (w.setCell p u) g t cs := (Below.heap_setCell w p u g hp).trans h
theorem Bk.below {B : Nat} (h : Bk w g t cs) (hb : Below B w w') (hg : g < B) : Bk w' g t cs := (hb.block g hg).trans h
theorem Bk.grown {row : Option Nat} (h : Bk w g t cs) (hb : w.grownBy w' row) (hg : some g ≠ row) : Bk w' g t cs := (hb.block g h.lt hg).trans h
theorem Bk.sl (h : Bk w g t cs) {B : Nat} (hg : g < B) {o n : Nat} {xs : List Value} (hl : xs.length = n) (hx : ∀ j u, xs[j]? = some u → cs[o + j]? = some u) : Sl w B (some ⟨g, o, none⟩) n xs :=
  Sl.of_cells hl hg fun j u hu => (h.cell _).trans (hx j u hu)
end

/-- The cells ds are slices that hold the byte lists 'data'. -/
def Each (w : World) (B : Nat) (ds : List Value) (data : List (List UInt8)) : Prop :=
  ds.length = data.length ∧ ∀ (i : Nat) (d : List UInt8), data[i]? = some d → ∃ (A : Option Addr) (c : Nat), ds[i]? = some (Value.slice A d.length c) ∧ Sl w B A d.length (bcs d)
/-- The value v is a layer with these numbers, byte lists, no parts, and this payload. -/
def Lyr (w : World) (B : Nat) (v : Value) (nums : List Nat) (data : List (List UInt8)) (pay : List UInt8) : Prop :=
  ∃ AN cN AD cD AP cP AB cB ds, v = Value.agg #[.slice AN nums.length cN, .slice AD data.length cD, .slice AP 0 cP, .slice AB pay.length cB] ∧
    Sl w B AN nums.length (ncs nums) ∧ Sl w B AD data.length ds ∧ Each w B ds data ∧ Sl w B AB pay.length (bcs pay)
section
variable {w w' : World} {B B' : Nat} {ds : List Value} {data : List (List UInt8)} {v : Value} {nums : List Nat} {pay : List UInt8}
theorem Each.below (h : Each w B ds data) (hb : Below B w w') : Each w' B ds data :=
  ⟨h.1, fun i d hd => let ⟨A, c, h1, h2⟩ := h.2 i d hd; ⟨A, c, h1, h2.below hb⟩⟩
theorem Each.more (h : Each w B ds data) (hB : B ≤ B') : Each w B' ds data :=
  ⟨h.1, fun i d hd => let ⟨A, c, h1, h2⟩ := h.2 i d hd; ⟨A, c, h1, h2.more hB⟩⟩
theorem Each.nil (w : World) (B : Nat) : Each w B [] [] := ⟨rfl, fun i d hd => by simp at hd⟩
theorem Each.cons {d : List UInt8} {A : Option Addr} {c : Nat} (h : Each w B ds data) (h1 : Sl w B A d.length (bcs d)) : Each w B (Value.slice A d.length c :: ds) (d :: data) := by
  refine ⟨by simp [h.1], fun i e he => ?_⟩
  cases i with
  | zero => simp at he; subst he; exact ⟨A, c, by simp, h1⟩
  | succ i => simp at he; simpa using h.2 i e he
theorem Lyr.below (h : Lyr w B v nums data pay) (hb : Below B w w') : Lyr w' B v nums data pay := by
  obtain ⟨AN, cN, AD, cD, AP, cP, AB, cB, ds, hv, h1, h2, h3, h4⟩ := h
  exact ⟨AN, cN, AD, cD, AP, cP, AB, cB, ds, hv, h1.below hb, h2.below hb, h3.below hb, h4.below hb⟩
theorem Lyr.more (h : Lyr w B v nums data pay) (hB : B ≤ B') : Lyr w B' v nums data pay := by
  obtain ⟨AN, cN, AD, cD, AP, cP, AB, cB, ds, hv, h1, h2, h3, h4⟩ := h
  exact ⟨AN, cN, AD, cD, AP, cP, AB, cB, ds, hv, h1.more hB, h2.more hB, h3.more hB, h4.more hB⟩
end
/-- The post of a walk, kept from the walk: a variable, and what leads to it. -/
theorem calls_hid {P : Program} {f : FuncId} {args : Array Value} {w : World} {R : Ending → World → Prop}
    (h : ∀ R' : Ending → World → Prop, Hid (∀ e w', R e w' → R' e w') → Calls P f args w R') : Calls P f args w R := h R (fun _ _ h => h)
/-- A walk stopped at a place of the prover's choice. -/
def Halted (p : Prop) : Prop := p
theorem halt_here {p : Prop} (h : Halted p) : p := h
theorem below_undrew {B : Nat} {a w : World} (h : Below B a.drew w) : Below B a w := ⟨h.os, h.tape, h.output, h.size, h.block⟩
theorem below_undrewN {B n : Nat} {a w : World} (h : Below B (a.drewN n) w) : Below B a w := ⟨h.os, h.tape, h.output, h.size, h.block⟩
theorem below_drewN {B : Nat} {a w : World} (h : Below B a w) (n : Nat) : Below B a (w.drewN n) := ⟨h.os, h.tape, h.output, h.size, h.block⟩
theorem grown_of_below {a w : World} (h : Below a.heap.size a w) (row : Option Nat) : a.grownBy w row := ⟨h.os, h.tape, h.output, h.size, fun i hi _ => h.block i hi⟩
end Go.Proofs.YtphmklgbbpiafaaGreat
