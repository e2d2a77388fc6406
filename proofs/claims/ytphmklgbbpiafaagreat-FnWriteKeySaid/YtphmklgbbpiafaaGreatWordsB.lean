/-
  Laws for the walk: append of a slice that reads as a list onto a row of the call's own, the source nil, empty or not. No condition.
-/
import Derived.Maps.AppendAt
import Derived.Test.YtphmklgbbpiafaaGreatWordsA
namespace Go.Proofs.YtphmklgbbpiafaaGreat
open Go Go.RowKit

section
variable {P : Program} (w : World)

theorem run_append_nothing (base : Nat) (t ty e : TypeId) (i : TypeInfo) (ht : P.underlying t = some (.slice e)) (hi : P.info? e = some i)
    (v : Value) (n : Nat) (xs : List Value) (hown : w.ownsRow base e 1 v n xs) (A : Option Addr) (c : Nat) :
    (Builtin.append_ #[t, t] ty #[v, .slice A 0 c]).run P w = .ok v w := by
  rcases hown.2 with ⟨rfl, rfl⟩ | ⟨g, cap, cur, rfl, _, _, hnc, _⟩
  · cases A <;> simp [Builtin.append_, run_underlying ht, sizeOf, typeInfo, hi, Builtin.lenOf, Builtin.firstCells, loadCells, loadCellsFrom]
  · cases A <;> simp [Builtin.append_, run_underlying ht, sizeOf, typeInfo, hi, Builtin.lenOf, Builtin.firstCells, loadCells, loadCellsFrom, hnc, storeCells]

theorem run_append_sl (base : Nat) (t ty e : TypeId) (i : TypeInfo) (z : Value) (bytes : Nat) (ht : P.underlying t = some (.slice e)) (hi : P.info? e = some i) (hz : i.zero = some z)
    (hsize : i.size = 1) (hby : i.bytes = bytes) (hzs : z.cells.size = 1)
    (v : Value) (n : Nat) (xs : List Value) (hown : w.ownsRow base e 1 v n xs)
    (B : Nat) (A : Option Addr) (m c : Nat) (news : List Value) (hr : Sl w B A m news) (h1 : ∀ u ∈ news, u.oneCell' = true)
    (h63 : n + m ≤ maxLen) (hbytes : (n + m) * bytes ≤ 140737488355328) (hbase : base ≤ w.heap.size) :
    ∃ v' w', (Builtin.append_ #[t, t] ty #[v, .slice A m c]).run P w = .ok v' w' ∧ w'.ownsRow base e 1 v' (n + m) (xs ++ news) ∧ w.grownBy w' v.ownBlock ∧
      (v'.ownBlock = v.ownBlock ∨ v'.ownBlock = some w.heap.size) := by
  rcases Nat.eq_zero_or_pos m with rfl | hm
  · have hn : news = [] := List.eq_nil_of_length_eq_zero hr.1
    subst hn
    exact ⟨v, w, run_append_nothing w base t ty e i ht hi v n xs hown A c, by simpa using hown, ⟨rfl, rfl, rfl, Nat.le_refl _, fun _ _ _ => rfl⟩, .inl rfl⟩
  · obtain ⟨g, o, rfl, _, hc⟩ := hr.2 hm
    obtain ⟨v', w', hrun, h2, h3, _, h5⟩ := run_append_own_at (P := P) w base t ty e i z 1 bytes ht hi hz hsize hby hzs (by decide) v n xs hown ⟨g, o, none⟩ m c news
      (by simpa using hr.1) (by intro j u hu; simpa [Addr.add_lit] using hc j u hu) h1 h63 hbytes hbase
    exact ⟨v', w', hrun, h2, h3, h5⟩

theorem wp_append_sl {o : Oper} {a : Act} {K : Act → World → Prop} {Q : Exit → Act → World → Prop} (s x : Operand) (t : TypeId)
    (ho : o.op = .call { callee := .builtin .append, args := #[s, x], argTypes := #[t, t] })
    (base : Nat) (e : TypeId) (i : TypeInfo) (z : Value) (bytes : Nat) (ht : P.underlying t = some (.slice e)) (hi : P.info? e = some i) (hz : i.zero = some z)
    (hsize : i.size = 1) (hby : i.bytes = bytes) (hzs : z.cells.size = 1)
    (v : Value) (n : Nat) (xs : List Value) (hs : a.eval s = v) (hown : w.ownsRow base e 1 v n xs)
    (B : Nat) (A : Option Addr) (m c : Nat) (news : List Value) (hx : a.eval x = .slice A m c) (hr : Sl w B A m news) (h1 : ∀ u ∈ news, u.oneCell' = true)
    (h63 : n + m ≤ maxLen) (hbytes : (n + m) * bytes ≤ 140737488355328) (hbase : base ≤ w.heap.size)
    (h : ∀ v' w', Hid (w'.ownsRow base e 1 v' (n + m) (xs ++ news)) → w.grownBy w' v.ownBlock → (v'.ownBlock = v.ownBlock ∨ v'.ownBlock = some w.heap.size) → K (a.put o.dst v') w') : o.wp P a w K Q := by
  obtain ⟨v', w', hrun, h2, h3, h4⟩ := run_append_sl (P := P) w base t o.type e i z bytes ht hi hz hsize hby hzs v n xs hown B A m c news hr h1 h63 hbytes hbase
  unfold Oper.wp execOp
  simp only [ho, resolve, invoke, builtin, Sem.run_bind, Sem.run_pure, Result.andThen_ok, List.map_toArray, List.map_cons, List.map_nil, hs, hx, hrun]
  exact h v' w' h2 h3 h4

theorem wpList_append_sl {ops : Array Oper} {rest : List Oper} {o : Oper} {a : Act} {Q : Exit → Act → World → Prop} (hgd : o.guard = none) (s x : Operand) (t : TypeId)
    (ho : o.op = .call { callee := .builtin .append, args := #[s, x], argTypes := #[t, t] })
    (base : Nat) (e : TypeId) (i : TypeInfo) (z : Value) (bytes : Nat) (ht : P.underlying t = some (.slice e)) (hi : P.info? e = some i) (hz : i.zero = some z)
    (hsize : i.size = 1) (hby : i.bytes = bytes) (hzs : z.cells.size = 1)
    (v : Value) (n : Nat) (xs : List Value) (hs : a.eval s = v) (hown : w.ownsRow base e 1 v n xs)
    (B : Nat) (A : Option Addr) (m c : Nat) (news : List Value) (hx : a.eval x = .slice A m c) (hr : Sl w B A m news) (h1 : ∀ u ∈ news, u.oneCell' = true)
    (h63 : n + m ≤ maxLen) (hbytes : (n + m) * bytes ≤ 140737488355328) (hbase : base ≤ w.heap.size)
    (h : ∀ v' w', Hid (w'.ownsRow base e 1 v' (n + m) (xs ++ news)) → w.grownBy w' v.ownBlock → (v'.ownBlock = v.ownBlock ∨ v'.ownBlock = some w.heap.size) → wpList P ops Q rest (a.put o.dst v') w') : wpList P ops Q (o :: rest) a w :=
  wpList_plain hgd fun _ hK => wp_append_sl w s x t ho base e i z bytes ht hi hz hsize hby hzs v n xs hs hown B A m c news hx hr h1 h63 hbytes hbase fun v' w' h2 h3 h4 => hK _ _ (h v' w' h2 h3 h4)

theorem step_append_sl {ops : Array Oper} {o : Oper} {a : Act} {K : Act → World → Prop} {Q : Exit → Act → World → Prop} {E : Prop} (hgd : o.guard = none) (s x : Operand) (t : TypeId)
    (ho : o.op = .call { callee := .builtin .append, args := #[s, x], argTypes := #[t, t] })
    (base : Nat) (e : TypeId) (i : TypeInfo) (z : Value) (bytes : Nat) (ht : P.underlying t = some (.slice e)) (hi : P.info? e = some i) (hz : i.zero = some z)
    (hsize : i.size = 1) (hby : i.bytes = bytes) (hzs : z.cells.size = 1)
    (v : Value) (n : Nat) (xs : List Value) (hs : a.eval s = v) (hown : w.ownsRow base e 1 v n xs)
    (B : Nat) (A : Option Addr) (m c : Nat) (news : List Value) (hx : a.eval x = .slice A m c) (hr : Sl w B A m news) (h1 : ∀ u ∈ news, u.oneCell' = true)
    (h63 : n + m ≤ maxLen) (hbytes : (n + m) * bytes ≤ 140737488355328) (hbase : base ≤ w.heap.size)
    (h : ∀ v' w', Hid (w'.ownsRow base e 1 v' (n + m) (xs ++ news)) → w.grownBy w' v.ownBlock → (v'.ownBlock = v.ownBlock ∨ v'.ownBlock = some w.heap.size) → K (a.put o.dst v') w') :
    if Region.wanted o (yielded ops a.tmps) = true then Oper.wp P o a w K Q else E := by
  have hw : Region.wanted o (yielded ops a.tmps) = true := by simp [Region.wanted, hgd]
  rw [if_pos hw]
  exact wp_append_sl w s x t ho base e i z bytes ht hi hz hsize hby hzs v n xs hs hown B A m c news hx hr h1 h63 hbytes hbase h
end

theorem own_below {w w' : World} {base : Nat} {e : TypeId} {v : Value} {n : Nat} {xs : List Value} (h : w.ownsRow base e 1 v n xs) (hb : Below w.heap.size w w') : w'.ownsRow base e 1 v n xs :=
  h.kept (grown_of_below hb none) (by cases hv : v.ownBlock <;> simp)
theorem own_blk_ne {w : World} {base : Nat} {e t : TypeId} {g n : Nat} {v : Value} {xs cs : List Value} (h : w.ownsRow base e 1 v n xs) (hg : Bk w g t cs) (hne : e ≠ t) : v.ownBlock ≠ some g := by
  rcases h.2 with ⟨rfl, _⟩ | ⟨g', cap, cur, rfl, _, hh, _⟩
  · simp [Value.ownBlock]
  · intro he
    have : g' = g := by simpa [Value.ownBlock] using he
    subst this
    unfold Bk at hg
    rw [hg] at hh
    injection hh with hh
    injection hh with _ ht
    exact hne ht.symm

/-- A region that draws its order: n operations that only read, then a forced tail; the world under one name. -/
theorem wp_region_tail {P : Program} {id : Nat} {Q : Exit → Act → World → Prop} {a : Act} {w : World} {l : List Oper} (n : Nat) (hm : P.follows .mixedOrders = true) (hB : Region.lexTailB .any l.toArray n = true)
    (h : wpStill P l.toArray w.drew (fun a' => wpList P l.toArray Q (l.drop n) a' w.drew) (l.take n) a) : (Code.region id l.toArray true).wp P Q a w :=
  wp_region_still_tail n hm hB h
theorem sd_drewN (W : World) (j : Nat) (a : Addr) (v : Value) : (W.drewN j).setCell a v = (W.setCell a v).drewN j := rfl
theorem ad_drewN (W : World) (j : Nat) (o : Obj) : (W.drewN j).alloc o = (W.alloc o).drewN j := rfl

/-- An owned row as a slice value. -/
theorem own_form {w : World} {base : Nat} {e : TypeId} {v : Value} {n : Nat} {xs : List Value} (h : w.ownsRow base e 1 v n xs) :
    ∃ A c, v = .slice A n c ∧ n ≤ c ∧ Sl w w.heap.size A n xs ∧ (A = none → c = 0) := by
  rcases h.2 with ⟨rfl, rfl⟩ | ⟨g, cap, cur, rfl, _, hg, hnc, _⟩
  · exact ⟨none, 0, rfl, Nat.le_refl _, Sl.of_own (c := 0) h, fun _ => rfl⟩
  · exact ⟨some ⟨g, 0, none⟩, cap, rfl, hnc, Sl.of_own (c := cap) h, fun h => by cases h⟩
end Go.Proofs.YtphmklgbbpiafaaGreat
