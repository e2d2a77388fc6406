/-
  The reference's Write: what it has laid so far. No condition.
-/
import Derived.Test.YtphmklgbbpiafaaGreatFitA
import Derived.Test.YtphmklgbbpiafaaGreatRdA
namespace Go.Proofs.YtphmklgbbpiafaaGreat
open Go Go.RowKit
set_option linter.unusedVariables false

/-- The variable in block go holds these bytes; below W's heap nothing has changed. -/
structure Out (W w : World) (go : Nat) (xs : List UInt8) : Prop where
  ex : ∃ v, Bk w go 25 [v] ∧ w.ownsRow W.heap.size 5 1 v xs.length (bcs xs)
  be : Below W.heap.size W w
  hg : W.heap.size ≤ go
section
variable {W w : World} {go : Nat} {xs : List UInt8}
theorem Out.drewN (h : Out W w go xs) (n : Nat) : Out W (w.drewN n) go xs := by
  obtain ⟨⟨v, h1, h2⟩, hb, hg⟩ := h
  exact ⟨⟨v, h1.drewN n, own_below h2 (below_drewN (Below.refl _ _) n)⟩, below_drewN hb n, hg⟩
theorem Out.drew (h : Out W w go xs) : Out W w.drew go xs := h.drewN 1
theorem Out.put (h : Out W w go xs) (n size : Nat) (E si : Int) (hE : E = n) (hsi : si = size) (hs : size ≤ 8) (hx : xs.length ≤ 100000) :
    Calls Tryz.prog 28 #[.int .u64 E, .int .i64 si, .pointer (some ⟨go, 0, none⟩)] w fun e w' => e = .returned (.tuple #[]) ∧ Out W w' go (xs ++ Lib.beBytes size n) := by
  subst hE
  subst hsi
  obtain ⟨⟨v, h1, h2⟩, hb, hg⟩ := h
  refine (put_any n size go xs.length v (bcs xs) W.heap.size w hs hx h1 h2 hb.size).mono ?_
  rintro e w' ⟨rfl, v', h3, h4, h5⟩
  refine ⟨rfl, ⟨v', h3, ?_⟩, hb.trans (h5 hg), hg⟩
  rw [List.length_append, Lib.beBytes_length, bcs_append]
  exact h4
theorem Out.sl (h : Out W w go xs) : ∃ A c, Bk w go 25 [.slice A xs.length c] ∧ w.ownsRow W.heap.size 5 1 (.slice A xs.length c) xs.length (bcs xs) := by
  obtain ⟨⟨v, h1, h2⟩, hb, hg⟩ := h
  obtain ⟨A, c, rfl, _, _, _⟩ := own_form h2
  exact ⟨A, c, h1, h2⟩
end
theorem Out.start (W : World) (v : Value) (hv : v = .slice (some ⟨W.heap.size, 0, none⟩) 0 0) : Out W ((W.alloc (.cells #[] 5)).alloc (.cells #[v] 25)) (W.heap.size + 1) [] := by
  subst hv
  refine ⟨⟨_, Bk.new2 W 5 25 [] [.slice (some ⟨W.heap.size, 0, none⟩) 0 0], ?_⟩, ((Below.refl _ _).alloc (Nat.le_refl _) _).alloc (by simp) _, by omega⟩
  have h : (W.alloc (.cells #[] 5)).ownsRow W.heap.size 5 1 (.slice (some ⟨W.heap.size, 0, none⟩) 0 0) 0 [] := World.ownsRow_made _ _ _ (Nat.le_refl _) (by simp [maxLen]) (by simp)
  exact own_below h ((Below.refl _ _).alloc (Nat.le_refl _) _)
theorem Sl.numE {w : World} {B g o n : Nat} {xs : List Nat} (hs : Sl w B (some ⟨g, o, none⟩) n (ncs xs)) (k v : Nat) (hk : k < n) (hv : xs.getD k 0 = v) : w.cell? ⟨g, o + k, none⟩ = some (.int .u64 v) := hv ▸ hs.num hk
/-- What the reference's Write says. -/
def SWrite (S : ByteArray) (fix : Bool) (bits sizes : List Nat) (C : List Nat → List (List UInt8) → List UInt8 → Prop) (out : List Nat → List (List UInt8) → List UInt8 → List UInt8) : Prop :=
  ∀ (nums : List Nat) (data : List (List UInt8)) (pay : List UInt8) (v : Value) (w : World), FitOK bits sizes nums data 0 pay → Lyr w w.heap.size v nums data pay →
    Calls Tryz.prog 21 #[.string S, v, .bool fix] w fun e w' => ∃ A n c b, e = .returned (.tuple #[.slice A n c, .bool b]) ∧ Below w.heap.size w w' ∧
      (b = true → C nums data pay ∧ n ≤ c ∧ (A = none → n = 0) ∧ Sl w' w'.heap.size A n (bcs (out nums data pay)))
end Go.Proofs.YtphmklgbbpiafaaGreat
