/-
  The keeper, AddLayer, LayerPayload, errors.New and bit. No condition.
-/
import Derived.Test.YtphmklgbbpiafaaGreatRdA
import Derived.Test.YtphmklgbbpiafaaGreatWritA
namespace Go.Proofs.YtphmklgbbpiafaaGreat
open Go Go.RowKit
set_option linter.unusedVariables false
attribute [local go_sem] sd_drewN ad_drewN

set_option maxRecDepth 100000 in
theorem addlayer (gk : Nat) (u v : Value) (t : TypeId) (w : World) (hk : Bk w gk 236 [u]) :
    Calls Tryz.prog 201 #[.pointer (some ⟨gk, 0, none⟩), .iface t v] w fun e w' => e = .returned (.tuple #[]) ∧ w' = w.setCell ⟨gk, 0, none⟩ (.iface t v) := by
  refine calls_hid fun R hR => ?_
  have c0 := hk.cell 0
  have f0 := hk.frozen 0
  simp only [List.getElem?_cons_zero] at c0
  clear hk
  go_enter Tryz.func201, Tryz.ntmps201
  go_wp2
  go_end0
  exact hR.out _ _ ⟨rfl, rfl⟩
set_option maxRecDepth 100000 in
theorem errnew (s : ByteArray) (w : World) :
    Calls Tryz.prog 76 #[.string s] w fun e w' => e = .returned (.iface 239 (.pointer (some ⟨w.heap.size, 0, none⟩))) ∧ w' = w.alloc (.cells #[.string s] 241) := by
  refine calls_hid fun R hR => ?_
  go_enter Tryz.func76, Tryz.ntmps76
  go_wp2
  exact hR.out _ _ ⟨rfl, rfl⟩
set_option maxRecDepth 100000 in
theorem layerpay (gx : Nat) (v : Value) (w : World) (c1 : w.cell? ⟨gx, 1, none⟩ = some v) :
    Calls Tryz.prog 128 #[.pointer (some ⟨gx, 0, none⟩)] w fun e w' => e = .returned v ∧ w = w' := by
  refine calls_hid fun R hR => ?_
  go_enter Tryz.func128, Tryz.ntmps128
  go_wp2
  exact hR.out _ _ ⟨rfl, rfl⟩
set_option maxRecDepth 100000 in
theorem bit_any (n : Nat) (h : n < 2) (w : World) : Calls Tryz.prog 70 #[.bool (bt n)] w fun e w' => e = .returned (.int .u64 n) ∧ w = w' := by
  refine calls_hid fun R hR => ?_
  rcases (show n = 0 ∨ n = 1 by omega) with rfl | rfl
  · go_enter Tryz.func70, Tryz.ntmps70
    go_wp2
    exact hR.out _ _ ⟨rfl, rfl⟩
  · go_enter Tryz.func70, Tryz.ntmps70
    go_wp2
    exact hR.out _ _ ⟨rfl, rfl⟩
theorem nil_addlayer (gk : Nat) (W : World) : (nilAhead 390 234 (.pointer (some ⟨gk, 0, none⟩)) "AddLayer").run Tryz.prog W = .ok (some false) W := by kernel_rfl
theorem method_addlayer (gk : Nat) (W : World) : (method 390 234 (.pointer (some ⟨gk, 0, none⟩)) "AddLayer").run Tryz.prog W = .ok (201, .pointer (some ⟨gk, 0, none⟩)) W := by kernel_rfl
theorem u8w (x : Int) : IntKind.u8.wrap x = x % 256 := by simp [IntKind.wrap, IntKind.bits, IntKind.signed]
theorem bt_ne (x k : Int) (hk : 0 < k) (n : Nat) (hn : n < 2) (h : x = n * k) : (x != 0) = bt n := by
  subst h
  rcases (show n = 0 ∨ n = 1 by omega) with rfl | rfl
  · simp [bt]
  · simp [bt]; omega
theorem grown_below {w w' : World} {g : Nat} (h : w.grownBy w' (some g)) (hg : g ≤ w.heap.size) : Below g w w' :=
  ⟨h.os, h.tape, h.output, h.size, fun k hk => h.block k (by omega) (by simp; omega)⟩
/-- What is known of a layer's own fields, and that it stays. -/
structure Fld where
  F : World → Nat → List Value → Prop
  keep : ∀ w w' B fs, F w B fs → Below B w w' → F w' B fs
  more : ∀ w B B' fs, F w B fs → B ≤ B' → F w B' fs
def Fld.just (fs : List Value) : Fld := ⟨fun _ _ l => l = fs, fun _ _ _ _ h _ => h, fun _ _ _ _ h _ => h⟩
/-- What a decoder does: it hands the keeper's block gk a new layer. -/
def Decs (f : FuncId) (Tp T : TypeId) (xs pay : List UInt8) (F : Fld) : Prop :=
  ∀ (gk : Nat) (u : Value) (A : Option Addr) (n c : Nat) (w : World), Bk w gk 236 [u] → Sl w gk A n (bcs xs) → n ≤ c →
    Calls Tryz.prog f #[.slice A n c, .iface 234 (.pointer (some ⟨gk, 0, none⟩))] w fun e w' => ∃ gx Cv Ap cp fs, e = .returned .nilIface ∧ w.heap.size ≤ gx ∧ Bk w' gk 236 [.iface Tp (.pointer (some ⟨gx, 0, none⟩))] ∧
      Bk w' gx T (Cv :: .slice Ap pay.length cp :: fs) ∧ Sl w' gk Ap pay.length (bcs pay) ∧ F.F w' gk fs ∧ w.grownBy w' (some gk)
/-- What told makes of such a layer. -/
def Tolds (Tp T : TypeId) (pay : List UInt8) (F : Fld) (nums : List Nat) (data : List (List UInt8)) : Prop :=
  ∀ (gx : Nat) (Cv : Value) (Ap : Option Addr) (cp : Nat) (fs : List Value) (w : World), Bk w gx T (Cv :: .slice Ap pay.length cp :: fs) → Sl w w.heap.size Ap pay.length (bcs pay) → F.F w w.heap.size fs →
    Calls Tryz.prog 59 #[.iface Tp (.pointer (some ⟨gx, 0, none⟩)), .slice Ap pay.length cp] w fun e w' => ∃ v, e = .returned (.tuple #[v, .bool true]) ∧ Below w.heap.size w w' ∧ LyrF w' w'.heap.size 0 (w.heap.size + 1) v nums data pay
end Go.Proofs.YtphmklgbbpiafaaGreat
