/-
  spec.Width, kind by kind: how many bits each number has, how many bytes each list. No condition.
-/
import Derived.Test.YtphmklgbbpiafaaGreatSerB
namespace Go.Proofs.YtphmklgbbpiafaaGreat
open Go Go.RowKit
set_option linter.unusedVariables false

/-- the cells of ints -/
def ics (l : List Nat) : List Value := l.map fun (n : Nat) => Value.int .i64 (n : Int)
theorem ics_length (l : List Nat) : (ics l).length = l.length := by simp [ics]
theorem Bk.new2 (w : World) (t t' : TypeId) (cs cs' : List Value) : Bk ((w.alloc (.cells cs.toArray t)).alloc (.cells cs'.toArray t')) (w.heap.size + 1) t' cs' := by
  have := Bk.new (w.alloc (.cells cs.toArray t)) t' cs'
  simpa using this
/-- What Width says of a kind. -/
def Wid (S : ByteArray) (bits sizes : List Nat) : Prop := ∀ w : World,
  Calls Tryz.prog 27 #[.string S] w fun e w' => ∃ A cA C cC, e = .returned (.tuple #[.slice A bits.length cA, .slice C sizes.length cC]) ∧ Below w.heap.size w w' ∧ Sl w' w'.heap.size A bits.length (ics bits) ∧ Sl w' w'.heap.size C sizes.length (ics sizes)
abbrev k_pppoe : ByteArray := ⟨#[112, 112, 112, 111, 101]⟩
abbrev k_ppp : ByteArray := ⟨#[112, 112, 112]⟩
abbrev k_llc : ByteArray := ⟨#[108, 108, 99]⟩
abbrev k_snap : ByteArray := ⟨#[115, 110, 97, 112]⟩
abbrev k_loopback : ByteArray := ⟨#[108, 111, 111, 112, 98, 97, 99, 107]⟩
abbrev k_eapol : ByteArray := ⟨#[101, 97, 112, 111, 108]⟩
abbrev k_eapolkey : ByteArray := ⟨#[101, 97, 112, 111, 108, 107, 101, 121]⟩
abbrev k_eap : ByteArray := ⟨#[101, 97, 112]⟩
abbrev k_mpls : ByteArray := ⟨#[109, 112, 108, 115]⟩
abbrev k_erspan : ByteArray := ⟨#[101, 114, 115, 112, 97, 110]⟩
abbrev k_bfd : ByteArray := ⟨#[98, 102, 100]⟩
abbrev k_ntp : ByteArray := ⟨#[110, 116, 112]⟩
abbrev k_gtp : ByteArray := ⟨#[103, 116, 112]⟩
set_option maxRecDepth 100000 in
theorem wid_pppoe : Wid k_pppoe [4, 4, 8, 16, 16] [] := by
  intro w
  refine calls_hid fun R hR => ?_
  go_enter Tryz.func27, Tryz.ntmps27
  go_wp2
  refine hR.out _ _ ⟨_, _, _, _, rfl, ?_, ?_, ?_⟩
  · exact (Below.refl _ _).alloc (Nat.le_refl _) _
  · exact Sl.of_cells rfl (by simp) (fun j u hu => ((Bk.new w 3 (ics [4, 4, 8, 16, 16])).cell _).trans (by simpa using hu))
  · exact Sl.none_ _ _ _
set_option maxRecDepth 100000 in
theorem wid_ppp : Wid k_ppp [16, 1] [] := by
  intro w
  refine calls_hid fun R hR => ?_
  go_enter Tryz.func27, Tryz.ntmps27
  go_wp2
  refine hR.out _ _ ⟨_, _, _, _, rfl, ?_, ?_, ?_⟩
  · exact (Below.refl _ _).alloc (Nat.le_refl _) _
  · exact Sl.of_cells rfl (by simp) (fun j u hu => ((Bk.new w 3 (ics [16, 1])).cell _).trans (by simpa using hu))
  · exact Sl.none_ _ _ _
set_option maxRecDepth 100000 in
theorem wid_llc : Wid k_llc [8, 1, 8, 1, 16] [] := by
  intro w
  refine calls_hid fun R hR => ?_
  go_enter Tryz.func27, Tryz.ntmps27
  go_wp2
  refine hR.out _ _ ⟨_, _, _, _, rfl, ?_, ?_, ?_⟩
  · exact (Below.refl _ _).alloc (Nat.le_refl _) _
  · exact Sl.of_cells rfl (by simp) (fun j u hu => ((Bk.new w 3 (ics [8, 1, 8, 1, 16])).cell _).trans (by simpa using hu))
  · exact Sl.none_ _ _ _
set_option maxRecDepth 100000 in
theorem wid_snap : Wid k_snap [16] [3] := by
  intro w
  refine calls_hid fun R hR => ?_
  go_enter Tryz.func27, Tryz.ntmps27
  go_wp2
  refine hR.out _ _ ⟨_, _, _, _, rfl, ?_, ?_, ?_⟩
  · exact ((Below.refl _ _).alloc (Nat.le_refl _) _).alloc (by simp) _
  · exact Sl.of_cells rfl (by simp; omega) (fun j u hu => (((Bk.new w 3 (ics [16])).alloc _).cell _).trans (by simpa using hu))
  · exact Sl.of_cells rfl (by simp) (fun j u hu => ((Bk.new2 w 3 3 (ics [16]) (ics [3])).cell _).trans (by simpa using hu))
set_option maxRecDepth 100000 in
theorem wid_loopback : Wid k_loopback [8] [] := by
  intro w
  refine calls_hid fun R hR => ?_
  go_enter Tryz.func27, Tryz.ntmps27
  go_wp2
  refine hR.out _ _ ⟨_, _, _, _, rfl, ?_, ?_, ?_⟩
  · exact (Below.refl _ _).alloc (Nat.le_refl _) _
  · exact Sl.of_cells rfl (by simp) (fun j u hu => ((Bk.new w 3 (ics [8])).cell _).trans (by simpa using hu))
  · exact Sl.none_ _ _ _
set_option maxRecDepth 100000 in
theorem wid_eapol : Wid k_eapol [8, 8, 16] [] := by
  intro w
  refine calls_hid fun R hR => ?_
  go_enter Tryz.func27, Tryz.ntmps27
  go_wp2
  refine hR.out _ _ ⟨_, _, _, _, rfl, ?_, ?_, ?_⟩
  · exact (Below.refl _ _).alloc (Nat.le_refl _) _
  · exact Sl.of_cells rfl (by simp) (fun j u hu => ((Bk.new w 3 (ics [8, 8, 16])).cell _).trans (by simpa using hu))
  · exact Sl.none_ _ _ _
set_option maxRecDepth 100000 in
theorem wid_eapolkey : Wid k_eapolkey [8, 3, 1, 2, 1, 1, 1, 1, 1, 1, 1, 1, 16, 64, 64, 64, 16] [32, 16, 16, 0] := by
  intro w
  refine calls_hid fun R hR => ?_
  go_enter Tryz.func27, Tryz.ntmps27
  go_wp2
  refine hR.out _ _ ⟨_, _, _, _, rfl, ?_, ?_, ?_⟩
  · exact ((Below.refl _ _).alloc (Nat.le_refl _) _).alloc (by simp) _
  · exact Sl.of_cells rfl (by simp; omega) (fun j u hu => (((Bk.new w 3 (ics [8, 3, 1, 2, 1, 1, 1, 1, 1, 1, 1, 1, 16, 64, 64, 64, 16])).alloc _).cell _).trans (by simpa using hu))
  · exact Sl.of_cells rfl (by simp) (fun j u hu => ((Bk.new2 w 3 3 (ics [8, 3, 1, 2, 1, 1, 1, 1, 1, 1, 1, 1, 16, 64, 64, 64, 16]) (ics [32, 16, 16, 0])).cell _).trans (by simpa using hu))
set_option maxRecDepth 100000 in
theorem wid_eap : Wid k_eap [8, 8, 16, 8] [0] := by
  intro w
  refine calls_hid fun R hR => ?_
  go_enter Tryz.func27, Tryz.ntmps27
  go_wp2
  refine hR.out _ _ ⟨_, _, _, _, rfl, ?_, ?_, ?_⟩
  · exact ((Below.refl _ _).alloc (Nat.le_refl _) _).alloc (by simp) _
  · exact Sl.of_cells rfl (by simp; omega) (fun j u hu => (((Bk.new w 3 (ics [8, 8, 16, 8])).alloc _).cell _).trans (by simpa using hu))
  · exact Sl.of_cells rfl (by simp) (fun j u hu => ((Bk.new2 w 3 3 (ics [8, 8, 16, 8]) (ics [0])).cell _).trans (by simpa using hu))
set_option maxRecDepth 100000 in
theorem wid_mpls : Wid k_mpls [20, 3, 1, 8] [] := by
  intro w
  refine calls_hid fun R hR => ?_
  go_enter Tryz.func27, Tryz.ntmps27
  go_wp2
  refine hR.out _ _ ⟨_, _, _, _, rfl, ?_, ?_, ?_⟩
  · exact (Below.refl _ _).alloc (Nat.le_refl _) _
  · exact Sl.of_cells rfl (by simp) (fun j u hu => ((Bk.new w 3 (ics [20, 3, 1, 8])).cell _).trans (by simpa using hu))
  · exact Sl.none_ _ _ _
set_option maxRecDepth 100000 in
theorem wid_erspan : Wid k_erspan [1, 4, 3, 2, 12, 10, 12, 20] [] := by
  intro w
  refine calls_hid fun R hR => ?_
  go_enter Tryz.func27, Tryz.ntmps27
  go_wp2
  refine hR.out _ _ ⟨_, _, _, _, rfl, ?_, ?_, ?_⟩
  · exact (Below.refl _ _).alloc (Nat.le_refl _) _
  · exact Sl.of_cells rfl (by simp) (fun j u hu => ((Bk.new w 3 (ics [1, 4, 3, 2, 12, 10, 12, 20])).cell _).trans (by simpa using hu))
  · exact Sl.none_ _ _ _
set_option maxRecDepth 100000 in
theorem wid_bfd : Wid k_bfd [3, 5, 2, 1, 1, 1, 1, 1, 1, 8, 32, 32, 32, 32, 32] [] := by
  intro w
  refine calls_hid fun R hR => ?_
  go_enter Tryz.func27, Tryz.ntmps27
  go_wp2
  refine hR.out _ _ ⟨_, _, _, _, rfl, ?_, ?_, ?_⟩
  · exact (Below.refl _ _).alloc (Nat.le_refl _) _
  · exact Sl.of_cells rfl (by simp) (fun j u hu => ((Bk.new w 3 (ics [3, 5, 2, 1, 1, 1, 1, 1, 1, 8, 32, 32, 32, 32, 32])).cell _).trans (by simpa using hu))
  · exact Sl.none_ _ _ _
set_option maxRecDepth 100000 in
theorem wid_ntp : Wid k_ntp [2, 3, 3, 8, 8, 8, 32, 32, 32, 64, 64, 64, 64] [0] := by
  intro w
  refine calls_hid fun R hR => ?_
  go_enter Tryz.func27, Tryz.ntmps27
  go_wp2
  refine hR.out _ _ ⟨_, _, _, _, rfl, ?_, ?_, ?_⟩
  · exact ((Below.refl _ _).alloc (Nat.le_refl _) _).alloc (by simp) _
  · exact Sl.of_cells rfl (by simp; omega) (fun j u hu => (((Bk.new w 3 (ics [2, 3, 3, 8, 8, 8, 32, 32, 32, 64, 64, 64, 64])).alloc _).cell _).trans (by simpa using hu))
  · exact Sl.of_cells rfl (by simp) (fun j u hu => ((Bk.new2 w 3 3 (ics [2, 3, 3, 8, 8, 8, 32, 32, 32, 64, 64, 64, 64]) (ics [0])).cell _).trans (by simpa using hu))
set_option maxRecDepth 100000 in
theorem wid_gtp : Wid k_gtp [3, 1, 1, 1, 1, 1, 8, 16, 32, 16, 8] [] := by
  intro w
  refine calls_hid fun R hR => ?_
  go_enter Tryz.func27, Tryz.ntmps27
  go_wp2
  refine hR.out _ _ ⟨_, _, _, _, rfl, ?_, ?_, ?_⟩
  · exact (Below.refl _ _).alloc (Nat.le_refl _) _
  · exact Sl.of_cells rfl (by simp) (fun j u hu => ((Bk.new w 3 (ics [3, 1, 1, 1, 1, 1, 8, 16, 32, 16, 8])).cell _).trans (by simpa using hu))
  · exact Sl.none_ _ _ _
end Go.Proofs.YtphmklgbbpiafaaGreat
