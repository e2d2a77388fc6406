/-
  Words that the walks of the thirteen SerializeTo share. No condition.
-/
import Derived.Test.YtphmklgbbpiafaaGreatBinB
namespace Go.Proofs.YtphmklgbbpiafaaGreat
open Go Go.RowKit

theorem Bk.ne {w : World} {g g' : Nat} {t t' : TypeId} {cs cs' : List Value} (h : Bk w g t cs) (h' : Bk w g' t' cs') (ht : t ≠ t') : g ≠ g' := by
  rintro rfl; unfold Bk at h h'; rw [h] at h'; simp at h'; exact ht h'.2
theorem Dat.alloc {w : World} {D : Option Addr} {n : Nat} {cs : List Value} (h : Dat w D n cs) (o : Obj) : Dat (w.alloc o) D n cs := by
  rcases h with h | ⟨g, rfl, hg, hl⟩
  · exact .inl h
  · exact .inr ⟨g, rfl, hg.alloc o, hl⟩
theorem Dat.drewN {w : World} {D : Option Addr} {n : Nat} {cs : List Value} (h : Dat w D n cs) (q : Nat) : Dat (w.drewN q) D n cs := h
theorem Dat.below {w w' : World} {B : Nat} {D : Option Addr} {n : Nat} {cs : List Value} (h : Dat w D n cs) (hb : Below B w w') (hB : w.heap.size ≤ B) : Dat w' D n cs := by
  rcases h with h | ⟨g, rfl, hg, hl⟩
  · exact .inl h
  · exact .inr ⟨g, rfl, hg.below hb (by have := hg.lt; omega), hl⟩
/-- a buffer ahead of a layer: so many bytes were appended, none prepended -/
def Buf (w : World) (gb : Nat) (D : Option Addr) (p a : Nat) (L : Value) : Prop := Bk w gb 163 [.slice D p p, .int .i64 0, .int .i64 0, .int .i64 a, L]
/-- a buffer that holds these bytes -/
def Done (w : World) (gb : Nat) (xs : List UInt8) : Prop :=
  ∃ g x2 x3 L, Bk w g 5 (bcs xs) ∧ Bk w gb 163 [.slice (some ⟨g, 0, none⟩) xs.length xs.length, .int .i64 0, x2, x3, L]
theorem below_of {w w' : World} {row : Option Nat} (h : w.grownBy w' row) {base : Nat} (hb : base ≤ w.heap.size) (hr : ∀ g, row = some g → base ≤ g) : Below base w w' :=
  (Below.refl _ w).grown h hb hr
theorem below_of_some {w w' : World} {g : Nat} (h : w.grownBy w' (some g)) {base : Nat} (hb : base ≤ w.heap.size) (hr : base ≤ g) : Below base w w' :=
  below_of h hb (by rintro _ ⟨⟩; exact hr)
theorem bt_true {n : Nat} (h : bt n = true) : n = 1 := by simpa [bt] using h
theorem bt_false {n : Nat} (h : bt n = false) (hn : n < 2) : n = 0 := by simp [bt] at h; omega
/-- What a SerializeTo does: it lays these bytes ahead of what the buffer held; below, the memory stays. -/
def Ser (f : FuncId) (fix sum : Bool) (pay hdr : List UInt8) (M : World → Nat → Nat → Prop) : Prop :=
  ∀ (gx gb a : Nat) (D : Option Addr) (L : Value) (w : World), M w gx gb → Buf w gb D pay.length a L → (a = 0 ∨ a = pay.length) → Dat w D pay.length (bcs pay) →
    Calls Tryz.prog f #[.pointer (some ⟨gx, 0, none⟩), .iface 160 (.pointer (some ⟨gb, 0, none⟩)), .agg #[.bool fix, .bool sum]] w fun e w' =>
      e = .returned .nilIface ∧ Done w' gb (hdr ++ pay) ∧ ∀ base, base ≤ w.heap.size → base ≤ gb → base ≤ gx → Below base w w'

theorem Done.of {w : World} {gb g n : Nat} {xs : List UInt8} {cs : List Value} {x2 x3 L : Value} (h : Bk w g 5 cs) (hb : Bk w gb 163 [.slice (some ⟨g, 0, none⟩) n n, .int .i64 0, x2, x3, L]) (hc : cs = bcs xs) (hn : n = xs.length) : Done w gb xs := by
  subst hn; subst hc; exact ⟨g, x2, x3, L, h, hb⟩
/-- A header that has been laid as far as A; k bytes of it are to come; behind it stands R. -/
def part (A : List UInt8) (k : Nat) (R : List Value) : List Value := bcs A ++ (zs k ++ R)
theorem part_start (k : Nat) (R : List Value) : zs k ++ R = part [] k R := rfl
theorem part_end (A pay : List UInt8) : part A 0 (bcs pay) = bcs (A ++ pay) := by simp [part, zs, bcs_append]
theorem part_length (A : List UInt8) (k : Nat) (R : List Value) : (part A k R).length = A.length + k + R.length := by simp [part, zs_length, bcs_length, Nat.add_assoc]
theorem part_lay (A X : List UInt8) (k m o : Nat) (R : List Value) (ho : o = A.length) (hk : k = X.length + m) : splice (part A k R) o (bcs X) = part (A ++ X) m R := by
  subst ho; subst hk
  unfold part
  rw [← List.append_assoc, ← bcs_length A, splice_ahead (bcs A) (bcs X) (zs (X.length + m)) R (by rw [bcs_length, zs_length]; omega), bcs_append, bcs_length]
  congr 2
  simp [zs]
theorem part_set (A : List UInt8) (b : UInt8) (E : Int) (k m o : Nat) (R : List Value) (ho : o = A.length) (hk : k = m + 1) (hE : E = b.toNat) : (part A k R).set o (.int .u8 E) = part (A ++ [b]) m R := by
  subst hE
  rw [← splice_one _ _ _ (by rw [part_length]; omega)]
  exact part_lay A [b] k m o R ho (by simp; omega)
theorem part_get (A : List UInt8) (k o : Nat) (R : List Value) (h1 : A.length ≤ o) (h2 : o < A.length + k) : (part A k R)[o]? = some (.int .u8 0) := by
  unfold part
  rw [List.getElem?_append_right (by rw [bcs_length]; exact h1), bcs_length, List.getElem?_append_left (by rw [zs_length]; omega)]
  simp [zs, List.getElem?_replicate]; omega

/-- While a header is laid into block g: what stands in the layer's block gx, the buffer's block gb, the header; since w1 nothing else has changed. -/
structure Hd (w1 w : World) (g gb gx : Nat) (T : TypeId) (cs : List Value) (A : List UInt8) (k : Nat) (R bc : List Value) : Prop where
  bx : Bk w gx T cs
  bg : Bk w g 5 (part A k R)
  bb : Bk w gb 163 bc
  gr : w1.grownBy w (some g)
  ne : gx ≠ g
  ne2 : gb ≠ g
section
variable {w0 w1 w w' : World} {g gb gx : Nat} {T : TypeId} {cs : List Value} {A : List UInt8} {k : Nat} {R bc : List Value}
theorem Hd.drewN (h : Hd w1 w g gb gx T cs A k R bc) (n : Nat) : Hd w1 (w.drewN n) g gb gx T cs A k R bc :=
  ⟨h.bx.drewN n, h.bg.drewN n, h.bb.drewN n, only_drewN h.gr n, h.ne, h.ne2⟩
theorem Hd.drew (h : Hd w1 w g gb gx T cs A k R bc) : Hd w1 w.drew g gb gx T cs A k R bc := h.drewN 1
theorem Hd.alloc (h : Hd w1 w g gb gx T cs A k R bc) (o : Obj) : Hd w1 (w.alloc o) g gb gx T cs A k R bc :=
  ⟨h.bx.alloc o, h.bg.alloc o, h.bb.alloc o, only_alloc h.gr o, h.ne, h.ne2⟩
theorem Hd.start (hx : Bk w1 gx T cs) (hg : Bk w1 g 5 (zs k ++ R)) (hb : Bk w1 gb 163 bc) (hn : g ≠ gx) (hn2 : g ≠ gb) : Hd w1 w1 g gb gx T cs [] k R bc :=
  ⟨hx, hg, hb, grownBy_refl' _ _, hn.symm, hn2.symm⟩
theorem Hd.set_ (h : Hd w1 w g gb gx T cs A k R bc) (b : UInt8) (E : Int) (o m : Nat) (ho : o = A.length) (hk : k = m + 1) (hE : E = b.toNat) : Hd w1 (w.setCell ⟨g, o, none⟩ (.int .u8 E)) g gb gx T cs (A ++ [b]) m R bc :=
  ⟨h.bx.far h.ne _, Bk.cast (h.bg.set_ o _) (part_set A b E k m o R ho hk hE), h.bb.far h.ne2 _, only_set h.gr (.inl rfl) _, h.ne, h.ne2⟩
theorem Hd.store (h : Hd w1 w g gb gx T cs A k R bc) (v : Nat) (E : Int) (o m : Nat) (ho : o = A.length) (hk : k = m + 1) (hE : E = v) (hv : v < 256) : Hd w1 (w.setCell ⟨g, o, none⟩ (.int .u8 E)) g gb gx T cs (A ++ Lib.beBytes 1 v) m R bc := by
  have e : Lib.beBytes 1 v = [(v % 256).toUInt8] := rfl
  rw [e]
  exact h.set_ _ E o m ho hk (by rw [Lib.toUInt8_mod, hE, Nat.mod_eq_of_lt hv])
theorem Hd.again {u : Nat} (h : Hd w1 w g gb gx T cs (A ++ Lib.beBytes 1 u) k R bc) (v : Nat) (E : Int) (o : Nat) (ho : o = A.length) (hE : E = v) (hv : v < 256) : Hd w1 (w.setCell ⟨g, o, none⟩ (.int .u8 E)) g gb gx T cs (A ++ Lib.beBytes 1 v) k R bc := by
  have e : ∀ x, Lib.beBytes 1 x = [(x % 256).toUInt8] := fun _ => rfl
  refine ⟨h.bx.far h.ne _, Bk.cast (h.bg.set_ o _) ?_, h.bb.far h.ne2 _, only_set h.gr (.inl rfl) _, h.ne, h.ne2⟩
  subst ho
  rw [hE, e, e]
  unfold part
  rw [bcs_append, bcs_append, List.append_assoc, List.append_assoc, ← bcs_length A, List.set_append_right _ _ (Nat.le_refl _), Nat.sub_self]
  simp [bcs, Nat.mod_eq_of_lt hv]
theorem Hd.laid (h : Hd w1 w g gb gx T cs A k R bc) (X : List UInt8) (o m : Nat) (ho : o = A.length) (hk : k = X.length + m) (hb : Bk w' g 5 (splice (part A k R) o (bcs X))) (hg : w.grownBy w' (some g)) : Hd w1 w' g gb gx T cs (A ++ X) m R bc :=
  ⟨h.bx.grown hg (by simpa using h.ne), Bk.cast hb (part_lay A X k m o R ho hk), h.bb.grown hg (by simpa using h.ne2), only_trans h.gr hg, h.ne, h.ne2⟩
theorem Hd.poke (h : Hd w1 w g gb gx T cs A k R bc) (hn : gx ≠ gb) (i : Nat) (v : Value) : Hd (w.setCell ⟨gx, i, none⟩ v) (w.setCell ⟨gx, i, none⟩ v) g gb gx T (cs.set i v) A k R bc :=
  ⟨h.bx.set_ i v, h.bg.far (Ne.symm h.ne) _, h.bb.far (Ne.symm hn) _, grownBy_refl' _ _, h.ne, h.ne2⟩
theorem Hd.kept (h : Hd w1 w g gb gx T cs A k R bc) (hB : ∀ base, base ≤ w0.heap.size → base ≤ gb → base ≤ gx → Below base w0 w1) (hg : w0.heap.size ≤ g) : ∀ base, base ≤ w0.heap.size → base ≤ gb → base ≤ gx → Below base w0 w :=
  fun base k1 k2 k3 => (hB base k1 k2 k3).trans (below_of_some h.gr (by have := (hB base k1 k2 k3).size; omega) (by omega))
theorem Hd.put16 (h : Hd w1 w g gb gx T cs A k R bc) (v : Nat) (E : Int) (o n c m : Nat) (ho : o = A.length) (hk : k = 2 + m) (hn : 2 ≤ n) (hE : E = v) (hv : v < 65536) :
    Calls Tryz.prog 131 #[.agg #[], .slice (some ⟨g, o, none⟩) n c, .int .u16 E] w fun e w' => e = .returned (.tuple #[]) ∧ Hd w1 w' g gb gx T cs (A ++ Lib.beBytes 2 v) m R bc := by
  subst hE
  refine (put16_at g o n c _ v w h.bg (by rw [part_length]; omega) hn (by omega) (by omega)).mono ?_
  rintro e w' ⟨rfl, hb, hg⟩
  exact ⟨rfl, h.laid _ o m ho (by rw [Lib.beBytes_length]; exact hk) hb hg⟩
theorem Hd.put32 (h : Hd w1 w g gb gx T cs A k R bc) (v : Nat) (E : Int) (o n c m : Nat) (ho : o = A.length) (hk : k = 4 + m) (hn : 4 ≤ n) (hE : E = v) (hv : v < 4294967296) :
    Calls Tryz.prog 158 #[.agg #[], .slice (some ⟨g, o, none⟩) n c, .int .u32 E] w fun e w' => e = .returned (.tuple #[]) ∧ Hd w1 w' g gb gx T cs (A ++ Lib.beBytes 4 v) m R bc := by
  subst hE
  refine (put32_at g o n c _ v w h.bg (by rw [part_length]; omega) hn (by omega) (by omega)).mono ?_
  rintro e w' ⟨rfl, hb, hg⟩
  exact ⟨rfl, h.laid _ o m ho (by rw [Lib.beBytes_length]; exact hk) hb hg⟩
theorem Hd.putl32 (h : Hd w1 w g gb gx T cs A k R bc) (v : Nat) (E : Int) (o n c m : Nat) (ho : o = A.length) (hk : k = 4 + m) (hn : 4 ≤ n) (hE : E = v) (hv : v < 4294967296) :
    Calls Tryz.prog 143 #[.agg #[], .slice (some ⟨g, o, none⟩) n c, .int .u32 E] w fun e w' => e = .returned (.tuple #[]) ∧ Hd w1 w' g gb gx T cs (A ++ Lib.leBytes 4 v) m R bc := by
  subst hE
  refine (putl32_at g o n c _ v w h.bg (by rw [part_length]; omega) hn (by omega) (by omega)).mono ?_
  rintro e w' ⟨rfl, hb, hg⟩
  exact ⟨rfl, h.laid _ o m ho (by rw [Lib.leBytes_length]; exact hk) hb hg⟩
theorem Hd.put64 (h : Hd w1 w g gb gx T cs A k R bc) (v : Nat) (E : Int) (o n c m : Nat) (ho : o = A.length) (hk : k = 8 + m) (hn : 8 ≤ n) (hE : E = v) (hv : v < 18446744073709551616) :
    Calls Tryz.prog 152 #[.agg #[], .slice (some ⟨g, o, none⟩) n c, .int .u64 E] w fun e w' => e = .returned (.tuple #[]) ∧ Hd w1 w' g gb gx T cs (A ++ Lib.beBytes 8 v) m R bc := by
  subst hE
  refine (put64_at g o n c _ v w h.bg (by rw [part_length]; omega) hn (by omega) (by omega)).mono ?_
  rintro e w' ⟨rfl, hb, hg⟩
  exact ⟨rfl, h.laid _ o m ho (by rw [Lib.beBytes_length]; exact hk) hb hg⟩
theorem Hd.fin {pay hdr : List UInt8} {n : Nat} {x2 x3 L : Value} (h : Hd w1 w g gb gx T cs A 0 (bcs pay) [.slice (some ⟨g, 0, none⟩) n n, .int .i64 0, x2, x3, L]) (hA : A = hdr) (hn : n = (hdr ++ pay).length)
    (hB : ∀ base, base ≤ w0.heap.size → base ≤ gb → base ≤ gx → Below base w0 w1) (hg : w0.heap.size ≤ g) : Done w gb (hdr ++ pay) ∧ ∀ base, base ≤ w0.heap.size → base ≤ gb → base ≤ gx → Below base w0 w := by
  subst hA
  refine ⟨Done.of h.bg h.bb (part_end _ _) hn, fun base k1 k2 k3 => ?_⟩
  exact (hB base k1 k2 k3).trans (below_of_some h.gr (by have := (hB base k1 k2 k3).size; omega) (by omega))
end
/-- 'x | y' as a sum -/
theorem or32 (i : Nat) (x y : Int) (hx : 0 ≤ x) (hx2 : x % 2 ^ i = 0) (hx3 : x < 2 ^ 32) (hy : 0 ≤ y) (hy2 : y < 2 ^ i) (hy3 : y < 2 ^ 32) : bits .or .u32 x y = x + y :=
  bits_join .u32 32 (by decide) wraps_u32 i x y hx hx2 hx3 hy hy2 hy3
theorem or16 (i : Nat) (x y : Int) (hx : 0 ≤ x) (hx2 : x % 2 ^ i = 0) (hx3 : x < 2 ^ 16) (hy : 0 ≤ y) (hy2 : y < 2 ^ i) (hy3 : y < 2 ^ 16) : bits .or .u16 x y = x + y :=
  bits_join .u16 16 (by decide) wraps_u16 i x y hx hx2 hx3 hy hy2 hy3
theorem or64 (i : Nat) (x y : Int) (hx : 0 ≤ x) (hx2 : x % 2 ^ i = 0) (hx3 : x < 2 ^ 64) (hy : 0 ≤ y) (hy2 : y < 2 ^ i) (hy3 : y < 2 ^ 64) : bits .or .u64 x y = x + y :=
  bits_join .u64 64 (by decide) wraps_u64 i x y hx hx2 hx3 hy hy2 hy3
theorem wraps_u8 (n : Int) (h₀ : 0 ≤ n) (h₁ : n < 2 ^ 8) : IntKind.u8.wrap n = n := by
  have : IntKind.u8.wrap n = n % 256 := by simp [IntKind.wrap, IntKind.bits, IntKind.signed]
  rw [this]; omega
theorem u8_wrap_id (x : Int) (h₀ : 0 ≤ x) (h₁ : x < 256) : IntKind.u8.wrap x = x := wraps_u8 x h₀ h₁
theorem or8 (i : Nat) (x y : Int) (hx : 0 ≤ x) (hx2 : x % 2 ^ i = 0) (hx3 : x < 2 ^ 8) (hy : 0 ≤ y) (hy2 : y < 2 ^ i) (hy3 : y < 2 ^ 8) : bits .or .u8 x y = x + y :=
  bits_join .u8 8 (by decide) wraps_u8 i x y hx hx2 hx3 hy hy2 hy3
theorem orl16 (i : Nat) (x y : Int) (hx : 0 ≤ x) (hx2 : x < 2 ^ i) (hx3 : x < 2 ^ 16) (hy : 0 ≤ y) (hy2 : y % 2 ^ i = 0) (hy3 : y < 2 ^ 16) : bits .or .u16 x y = x + y :=
  bits_join_low .u16 16 (by decide) wraps_u16 i x y hx hx2 hx3 hy hy2 hy3
/-- 'x | y' of numbers -/
theorem or_nat (k : IntKind) (j : Nat) (hj : j ≤ k.bits) (hk : ∀ n : Int, 0 ≤ n → n < 2 ^ j → k.wrap n = n) (a b : Nat) (ha : a < 2 ^ j) (hb : b < 2 ^ j) : bits .or k a b = ((a ||| b : Nat) : Int) :=
  (bits_nat k j hj hk a b ha hb).2
/-- numbers whose bits lie apart -/
theorem or_apart (a b i j : Nat) (h1 : a % 2 ^ j < 2 ^ i) (h2 : b < 2 ^ j) (h3 : b % 2 ^ i = 0) : a ||| b = a + b := by
  have e1 : a = 2 ^ j * (a / 2 ^ j) + a % 2 ^ j := (Nat.div_add_mod _ _).symm
  have h4 : a % 2 ^ j ||| b = b + a % 2 ^ j := by
    rw [Nat.or_comm]
    have e2 : b = 2 ^ i * (b / 2 ^ i) := by have := Nat.div_add_mod b (2 ^ i); omega
    rw [e2]
    exact (Nat.two_pow_add_eq_or_of_lt h1 _).symm
  have h5 : b + a % 2 ^ j < 2 ^ j := by rw [← h4]; exact Nat.or_lt_two_pow (Nat.mod_lt _ (Nat.two_pow_pos _)) h2
  calc a ||| b = (2 ^ j * (a / 2 ^ j) ||| a % 2 ^ j) ||| b := by rw [← Nat.two_pow_add_eq_or_of_lt (Nat.mod_lt _ (Nat.two_pow_pos _)), Nat.div_add_mod]
    _ = 2 ^ j * (a / 2 ^ j) ||| (b + a % 2 ^ j) := by rw [Nat.or_assoc, h4]
    _ = 2 ^ j * (a / 2 ^ j) + (b + a % 2 ^ j) := (Nat.two_pow_add_eq_or_of_lt h5 _).symm
    _ = a + b := by omega
theorem orA (k : IntKind) (m : Nat) (hj : m ≤ k.bits) (hk : ∀ n : Int, 0 ≤ n → n < 2 ^ m → k.wrap n = n) (i j : Nat) (x y : Int) (hx : 0 ≤ x) (hx2 : x % 2 ^ j < 2 ^ i) (hx3 : x < 2 ^ m) (hy : 0 ≤ y) (hy2 : y < 2 ^ j) (hy3 : y % 2 ^ i = 0) (hy4 : y < 2 ^ m) : bits .or k x y = x + y := by
  obtain ⟨a, rfl⟩ := Int.eq_ofNat_of_zero_le hx
  obtain ⟨b, rfl⟩ := Int.eq_ofNat_of_zero_le hy
  rw [or_nat k m hj hk a b (by exact_mod_cast hx3) (by exact_mod_cast hy4), or_apart a b i j (by exact_mod_cast hx2) (by exact_mod_cast hy2) (by exact_mod_cast hy3)]
  omega
/-- 'x | y' as a sum, where y's bits lie between i and j, and x has none of these -/
theorem orm8 (i j : Nat) (x y : Int) (hx : 0 ≤ x) (hx2 : x % 2 ^ j < 2 ^ i) (hx3 : x < 2 ^ 8) (hy : 0 ≤ y) (hy2 : y < 2 ^ j) (hy3 : y % 2 ^ i = 0) (hy4 : y < 2 ^ 8) : bits .or .u8 x y = x + y := orA .u8 8 (by decide) wraps_u8 i j x y hx hx2 hx3 hy hy2 hy3 hy4
theorem orm16 (i j : Nat) (x y : Int) (hx : 0 ≤ x) (hx2 : x % 2 ^ j < 2 ^ i) (hx3 : x < 2 ^ 16) (hy : 0 ≤ y) (hy2 : y < 2 ^ j) (hy3 : y % 2 ^ i = 0) (hy4 : y < 2 ^ 16) : bits .or .u16 x y = x + y := orA .u16 16 (by decide) wraps_u16 i j x y hx hx2 hx3 hy hy2 hy3 hy4
theorem orm32 (i j : Nat) (x y : Int) (hx : 0 ≤ x) (hx2 : x % 2 ^ j < 2 ^ i) (hx3 : x < 2 ^ 32) (hy : 0 ≤ y) (hy2 : y < 2 ^ j) (hy3 : y % 2 ^ i = 0) (hy4 : y < 2 ^ 32) : bits .or .u32 x y = x + y := orA .u32 32 (by decide) wraps_u32 i j x y hx hx2 hx3 hy hy2 hy3 hy4
theorem orm64 (i j : Nat) (x y : Int) (hx : 0 ≤ x) (hx2 : x % 2 ^ j < 2 ^ i) (hx3 : x < 2 ^ 64) (hy : 0 ≤ y) (hy2 : y < 2 ^ j) (hy3 : y % 2 ^ i = 0) (hy4 : y < 2 ^ 64) : bits .or .u64 x y = x + y := orA .u64 64 (by decide) wraps_u64 i j x y hx hx2 hx3 hy hy2 hy3 hy4
theorem andA (k : IntKind) (m : Nat) (hj : m ≤ k.bits) (hk : ∀ n : Int, 0 ≤ n → n < 2 ^ m → k.wrap n = n) (j : Nat) (x y : Int) (hx : 0 ≤ x) (hx3 : x < 2 ^ m) (hy : y = 2 ^ j - 1) (hy2 : y < 2 ^ m) : bits .and k x y = x % 2 ^ j := by
  obtain ⟨a, rfl⟩ := Int.eq_ofNat_of_zero_le hx
  have e : y = ((2 ^ j - 1 : Nat) : Int) := by
    have := Nat.two_pow_pos j
    rw [hy, Int.natCast_sub (by omega)]
    simp
  subst e
  rw [(bits_nat k m hj hk a (2 ^ j - 1) (by exact_mod_cast hx3) (by exact_mod_cast hy2)).1, Nat.and_two_pow_sub_one_eq_mod]
  simp
theorem and16_4095 (x : Int) (hx : 0 ≤ x) (hx3 : x < 65536) : bits .and .u16 x 4095 = x % 4096 := andA .u16 16 (by decide) wraps_u16 12 x 4095 hx hx3 rfl (by decide)
theorem and16_1023 (x : Int) (hx : 0 ≤ x) (hx3 : x < 65536) : bits .and .u16 x 1023 = x % 1024 := andA .u16 16 (by decide) wraps_u16 10 x 1023 hx hx3 rfl (by decide)
theorem and32_1048575 (x : Int) (hx : 0 ≤ x) (hx3 : x < 4294967296) : bits .and .u32 x 1048575 = x % 1048576 := andA .u32 32 (by decide) wraps_u32 20 x 1048575 hx hx3 rfl (by decide)
theorem and8_1 (x : Int) (hx : 0 ≤ x) (hx3 : x < 256) : bits .and .u8 x 1 = x % 2 := andA .u8 8 (by decide) wraps_u8 1 x 1 hx hx3 rfl (by decide)
theorem and8_3 (x : Int) (hx : 0 ≤ x) (hx3 : x < 256) : bits .and .u8 x 3 = x % 4 := andA .u8 8 (by decide) wraps_u8 2 x 3 hx hx3 rfl (by decide)
theorem and8_7 (x : Int) (hx : 0 ≤ x) (hx3 : x < 256) : bits .and .u8 x 7 = x % 8 := andA .u8 8 (by decide) wraps_u8 3 x 7 hx hx3 rfl (by decide)
theorem and8_15 (x : Int) (hx : 0 ≤ x) (hx3 : x < 256) : bits .and .u8 x 15 = x % 16 := andA .u8 8 (by decide) wraps_u8 4 x 15 hx hx3 rfl (by decide)
theorem and8_31 (x : Int) (hx : 0 ≤ x) (hx3 : x < 256) : bits .and .u8 x 31 = x % 32 := andA .u8 8 (by decide) wraps_u8 5 x 31 hx hx3 rfl (by decide)
theorem and8_63 (x : Int) (hx : 0 ≤ x) (hx3 : x < 256) : bits .and .u8 x 63 = x % 64 := andA .u8 8 (by decide) wraps_u8 6 x 63 hx hx3 rfl (by decide)
theorem and16_1 (x : Int) (hx : 0 ≤ x) (hx3 : x < 65536) : bits .and .u16 x 1 = x % 2 := andA .u16 16 (by decide) wraps_u16 1 x 1 hx hx3 rfl (by decide)
theorem and16_3 (x : Int) (hx : 0 ≤ x) (hx3 : x < 65536) : bits .and .u16 x 3 = x % 4 := andA .u16 16 (by decide) wraps_u16 2 x 3 hx hx3 rfl (by decide)
theorem and16_7 (x : Int) (hx : 0 ≤ x) (hx3 : x < 65536) : bits .and .u16 x 7 = x % 8 := andA .u16 16 (by decide) wraps_u16 3 x 7 hx hx3 rfl (by decide)
theorem and16_15 (x : Int) (hx : 0 ≤ x) (hx3 : x < 65536) : bits .and .u16 x 15 = x % 16 := andA .u16 16 (by decide) wraps_u16 4 x 15 hx hx3 rfl (by decide)
theorem and32_7 (x : Int) (hx : 0 ≤ x) (hx3 : x < 4294967296) : bits .and .u32 x 7 = x % 8 := andA .u32 32 (by decide) wraps_u32 3 x 7 hx hx3 rfl (by decide)
theorem and64_1 (x : Int) (hx : 0 ≤ x) (hx3 : x < 18446744073709551616) : bits .and .u64 x 1 = x % 2 := andA .u64 64 (by decide) wraps_u64 1 x 1 hx hx3 rfl (by decide)
theorem and64_3 (x : Int) (hx : 0 ≤ x) (hx3 : x < 18446744073709551616) : bits .and .u64 x 3 = x % 4 := andA .u64 64 (by decide) wraps_u64 2 x 3 hx hx3 rfl (by decide)
theorem and64_7 (x : Int) (hx : 0 ≤ x) (hx3 : x < 18446744073709551616) : bits .and .u64 x 7 = x % 8 := andA .u64 64 (by decide) wraps_u64 3 x 7 hx hx3 rfl (by decide)
theorem and64_15 (x : Int) (hx : 0 ≤ x) (hx3 : x < 18446744073709551616) : bits .and .u64 x 15 = x % 16 := andA .u64 64 (by decide) wraps_u64 4 x 15 hx hx3 rfl (by decide)
theorem and64_31 (x : Int) (hx : 0 ≤ x) (hx3 : x < 18446744073709551616) : bits .and .u64 x 31 = x % 32 := andA .u64 64 (by decide) wraps_u64 5 x 31 hx hx3 rfl (by decide)
theorem and64_255 (x : Int) (hx : 0 ≤ x) (hx3 : x < 18446744073709551616) : bits .and .u64 x 255 = x % 256 := andA .u64 64 (by decide) wraps_u64 8 x 255 hx hx3 rfl (by decide)
theorem and64_1023 (x : Int) (hx : 0 ≤ x) (hx3 : x < 18446744073709551616) : bits .and .u64 x 1023 = x % 1024 := andA .u64 64 (by decide) wraps_u64 10 x 1023 hx hx3 rfl (by decide)
theorem and64_4095 (x : Int) (hx : 0 ≤ x) (hx3 : x < 18446744073709551616) : bits .and .u64 x 4095 = x % 4096 := andA .u64 64 (by decide) wraps_u64 12 x 4095 hx hx3 rfl (by decide)
theorem and64_1048575 (x : Int) (hx : 0 ≤ x) (hx3 : x < 18446744073709551616) : bits .and .u64 x 1048575 = x % 1048576 := andA .u64 64 (by decide) wraps_u64 20 x 1048575 hx hx3 rfl (by decide)
theorem and_two_pow (a j : Nat) : a &&& 2 ^ j = a / 2 ^ j % 2 * 2 ^ j := by
  have ht : a.testBit j = decide (a / 2 ^ j % 2 = 1) := Nat.testBit_eq_decide_div_mod_eq
  apply Nat.eq_of_testBit_eq
  intro i
  rw [Nat.testBit_and, Nat.testBit_two_pow]
  rcases Nat.mod_two_eq_zero_or_one (a / 2 ^ j) with h | h
  · rw [h, Nat.zero_mul, Nat.zero_testBit]
    by_cases e : j = i
    · subst e; simp [ht, h]
    · simp [e]
  · rw [h, Nat.one_mul, Nat.testBit_two_pow]
    by_cases e : j = i
    · subst e; simp [ht, h]
    · simp [e]
theorem and_bitA (k : IntKind) (m : Nat) (hj : m ≤ k.bits) (hk : ∀ n : Int, 0 ≤ n → n < 2 ^ m → k.wrap n = n) (j : Nat) (x y : Int) (hx : 0 ≤ x) (hx3 : x < 2 ^ m) (hy : y = 2 ^ j) (hy2 : y < 2 ^ m) : bits .and k x y = x / 2 ^ j % 2 * 2 ^ j := by
  obtain ⟨a, rfl⟩ := Int.eq_ofNat_of_zero_le hx
  have e : y = ((2 ^ j : Nat) : Int) := by rw [hy]; simp
  subst e
  rw [(bits_nat k m hj hk a (2 ^ j) (by exact_mod_cast hx3) (by exact_mod_cast hy2)).1, and_two_pow]
  simp
theorem bit16_256 (x : Int) (hx : 0 ≤ x) (hx3 : x < 65536) : bits .and .u16 x 256 = x / 256 % 2 * 256 := and_bitA .u16 16 (by decide) wraps_u16 8 x 256 hx hx3 rfl (by decide)
theorem bit8_2 (x : Int) (hx : 0 ≤ x) (hx3 : x < 256) : bits .and .u8 x 2 = x / 2 % 2 * 2 := and_bitA .u8 8 (by decide) wraps_u8 1 x 2 hx hx3 rfl (by decide)
theorem bit8_4 (x : Int) (hx : 0 ≤ x) (hx3 : x < 256) : bits .and .u8 x 4 = x / 4 % 2 * 4 := and_bitA .u8 8 (by decide) wraps_u8 2 x 4 hx hx3 rfl (by decide)
theorem bit8_8 (x : Int) (hx : 0 ≤ x) (hx3 : x < 256) : bits .and .u8 x 8 = x / 8 % 2 * 8 := and_bitA .u8 8 (by decide) wraps_u8 3 x 8 hx hx3 rfl (by decide)
theorem bit8_16 (x : Int) (hx : 0 ≤ x) (hx3 : x < 256) : bits .and .u8 x 16 = x / 16 % 2 * 16 := and_bitA .u8 8 (by decide) wraps_u8 4 x 16 hx hx3 rfl (by decide)
theorem bit8_32 (x : Int) (hx : 0 ≤ x) (hx3 : x < 256) : bits .and .u8 x 32 = x / 32 % 2 * 32 := and_bitA .u8 8 (by decide) wraps_u8 5 x 32 hx hx3 rfl (by decide)
theorem bit8_64 (x : Int) (hx : 0 ≤ x) (hx3 : x < 256) : bits .and .u8 x 64 = x / 64 % 2 * 64 := and_bitA .u8 8 (by decide) wraps_u8 6 x 64 hx hx3 rfl (by decide)
theorem bit8_128 (x : Int) (hx : 0 ≤ x) (hx3 : x < 256) : bits .and .u8 x 128 = x / 128 % 2 * 128 := and_bitA .u8 8 (by decide) wraps_u8 7 x 128 hx hx3 rfl (by decide)
theorem bit16_64 (x : Int) (hx : 0 ≤ x) (hx3 : x < 65536) : bits .and .u16 x 64 = x / 64 % 2 * 64 := and_bitA .u16 16 (by decide) wraps_u16 6 x 64 hx hx3 rfl (by decide)
theorem bit16_128 (x : Int) (hx : 0 ≤ x) (hx3 : x < 65536) : bits .and .u16 x 128 = x / 128 % 2 * 128 := and_bitA .u16 16 (by decide) wraps_u16 7 x 128 hx hx3 rfl (by decide)
theorem bit16_512 (x : Int) (hx : 0 ≤ x) (hx3 : x < 65536) : bits .and .u16 x 512 = x / 512 % 2 * 512 := and_bitA .u16 16 (by decide) wraps_u16 9 x 512 hx hx3 rfl (by decide)
theorem bit16_1024 (x : Int) (hx : 0 ≤ x) (hx3 : x < 65536) : bits .and .u16 x 1024 = x / 1024 % 2 * 1024 := and_bitA .u16 16 (by decide) wraps_u16 10 x 1024 hx hx3 rfl (by decide)
theorem bit16_2048 (x : Int) (hx : 0 ≤ x) (hx3 : x < 65536) : bits .and .u16 x 2048 = x / 2048 % 2 * 2048 := and_bitA .u16 16 (by decide) wraps_u16 11 x 2048 hx hx3 rfl (by decide)
theorem bit16_4096 (x : Int) (hx : 0 ≤ x) (hx3 : x < 65536) : bits .and .u16 x 4096 = x / 4096 % 2 * 4096 := and_bitA .u16 16 (by decide) wraps_u16 12 x 4096 hx hx3 rfl (by decide)
theorem bit16_8192 (x : Int) (hx : 0 ≤ x) (hx3 : x < 65536) : bits .and .u16 x 8192 = x / 8192 % 2 * 8192 := and_bitA .u16 16 (by decide) wraps_u16 13 x 8192 hx hx3 rfl (by decide)
theorem bit32_256 (x : Int) (hx : 0 ≤ x) (hx3 : x < 4294967296) : bits .and .u32 x 256 = x / 256 % 2 * 256 := and_bitA .u32 32 (by decide) wraps_u32 8 x 256 hx hx3 rfl (by decide)
theorem and16_65280 (x : Nat) (hx3 : x < 65536) : bits .and .u16 (x : Int) 65280 = ((x / 256 * 256 : Nat) : Int) := by
  rw [show (65280 : Int) = ((65280 : Nat) : Int) from rfl, (bits_nat .u16 16 (by decide) wraps_u16 x 65280 hx3 (by decide)).1]
  congr 1
  apply Nat.eq_of_testBit_eq
  intro i
  rw [Nat.testBit_and, show 65280 = (2 ^ 8 - 1) * 2 ^ 8 from rfl, show x / 256 * 256 = x / 2 ^ 8 * 2 ^ 8 from rfl, Nat.testBit_mul_two_pow, Nat.testBit_mul_two_pow, Nat.testBit_two_pow_sub_one, Nat.testBit_div_two_pow]
  by_cases h : 8 ≤ i
  · by_cases h2 : i - 8 < 8
    · simp [h, h2]
    · have : x.testBit i = false := Nat.testBit_lt_two_pow (Nat.lt_of_lt_of_le hx3 (Nat.pow_le_pow_right (show 0 < 2 by omega) (by omega : 16 ≤ i)))
      simp [h, h2, this]
  · simp [h]
theorem beBytes_two (v : Nat) : Lib.beBytes 2 v = Lib.beBytes 1 (v / 256) ++ Lib.beBytes 1 (v % 256) := by
  simp [Lib.beBytes, Lib.leBytes]
end Go.Proofs.YtphmklgbbpiafaaGreat
