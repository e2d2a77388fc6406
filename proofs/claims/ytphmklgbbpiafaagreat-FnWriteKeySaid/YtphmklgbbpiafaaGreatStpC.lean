/-
  A drawn region whose operations write consecutive slots: what may be taken first, by one check of the region; the step of an operation that only reads; the step of a call that makes 0 or 1 of a bool. No condition.
-/
import Derived.Deep.RegionHeld3
import Derived.Test.YtphmklgbbpiafaaGreatDecA
namespace Go.Proofs.YtphmklgbbpiafaaGreat
open Go Go.RowKit
set_option linter.unusedVariables false
set_option maxRecDepth 100000 in
theorem step_bit {ops : Array Oper} {o : Oper} {a : Act} {w : World} {K : Act → World → Prop} {Q : Exit → Act → World → Prop} {E : Prop} (hgd : o.guard = none) (t : Nat)
    (ho : o.op = .call { callee := .value (.func 70), args := #[.tmp t], argTypes := #[4] }) (n : Nat) (h : n < 2) (hx : a.tmps[t]?.getD undef = .bool (bt n)) (hK : K (a.put o.dst (.int .u64 n)) w) :
    if Region.wanted o (yielded ops a.tmps) = true then Oper.wp Tryz.prog o a w K Q else E := by
  have hw : Region.wanted o (yielded ops a.tmps) = true := by simp [Region.wanted, hgd]
  rw [if_pos hw]
  obtain ⟨dst, op, type, pos, after, guard⟩ := o
  simp only at ho hgd hK
  subst ho
  go_simp
  refine (bit_any n h w).mono ?_
  rintro e w' ⟨rfl, rfl⟩
  exact hK
/-- The frame in three parts: ahead of the region's slots, they, behind them. -/
theorem wp_frame {P : Program} {c : Code} {Q : Exit → Act → World → Prop} {L : List Value} {d : List Deferred} {w : World} (n k : Nat)
    (h : ∀ pre mid post, pre = L.take n → mid = (L.drop n).take k → post = (L.drop n).drop k → c.wp P Q ⟨(pre ++ (mid ++ post)).toArray, d⟩ w) : c.wp P Q ⟨L.toArray, d⟩ w := by
  have := h _ _ _ rfl rfl rfl
  rwa [List.take_append_drop, List.take_append_drop] at this
/-- The list has so many cells: a word that the walk does not open. -/
def Lng (n : Nat) (l : List Value) : Prop := n ≤ l.length
theorem Lng.get_ {n : Nat} {l : List Value} (h : Lng n l) {i : Nat} (hi : i < n) (v : Value) : (l.set i v)[i]? = some v :=
  List.getElem?_set_self (Nat.lt_of_lt_of_le hi h)
/-- Operation number j writes slot base + j or none; it looks at slots below base, or at what those wrote for whom it waits. -/
def lawful (md : Region.Mode) (ops : Array Oper) (base : Nat) : Bool :=
  (List.range ops.size).all fun j => match ops[j]? with
    | none => false
    | some o => (match o.dst with | none => true | some d => d == base + j) &&
        (o.looksAt ops).all fun s => decide (s < base) || o.after.any fun e => Region.binds md e && (base + e.on == s)
section
variable {P : Program} {md : Region.Mode} {ops : Array Oper} {Q : Exit → Act → World → Prop} {S : World → Prop} {base : Nat}
theorem lawful_at (h : lawful md ops base = true) {j : Nat} {o : Oper} (ho : ops[j]? = some o) :
    (∀ d : Nat, o.dst = some d → d = base + j) ∧ ∀ s : Nat, s ∈ o.looksAt ops → s < base ∨ ∃ e ∈ o.after, Region.binds md e = true ∧ base + e.on = s := by
  have hj := (Array.getElem?_eq_some_iff.1 ho).1
  have h1 := (List.all_eq_true.1 h) j (List.mem_range.2 hj)
  simp only [ho, Bool.and_eq_true] at h1
  refine ⟨fun d hd => ?_, fun s hs => ?_⟩
  · have := h1.1
    rw [hd] at this
    simpa using this
  · have := (List.all_eq_true.1 h1.2) s hs
    rcases Bool.or_eq_true _ _ ▸ this with h2 | h2
    · exact .inl (by simpa using h2)
    · obtain ⟨e, he, hb⟩ := Array.any_eq_true'.1 h2
      simp only [Bool.and_eq_true, beq_iff_eq] at hb
      exact .inr ⟨e, he, hb.1, hb.2⟩
theorem lawful_apart (h : lawful md ops base = true) {i : Nat} {oi : Oper} {listed : Array Bool} (hi : ops[i]? = some oi) (hr : i ∈ Region.ready md ops listed)
    (j : Nat) (oj : Oper) (hj : ops[j]? = some oj) (hne : j ≠ i) (hun : listed.getD j true = false) (hno : ∀ e ∈ oj.after, Region.binds md e = true → e.on ≠ i) :
    oi.apart ops oj = true := by
  obtain ⟨a1, a2⟩ := lawful_at h hi
  obtain ⟨b1, b2⟩ := lawful_at h hj
  obtain ⟨_, o', ho', haf⟩ := mem_ready.1 hr
  rw [hi] at ho'
  cases ho'
  unfold Oper.apart
  rw [Bool.and_eq_true]
  constructor
  · split
    · rename_i d hd
      have e1 : @Eq Nat d (base + i) := a1 d hd
      rw [Bool.and_eq_true]
      constructor
      · have hm : d ∉ oj.looksAt ops := fun hm => by
          rcases b2 _ hm with hlt | ⟨e, he, hb, heq⟩
          · omega
          · exact hno e he hb (by omega)
        simpa using hm
      · have hm : oj.dst ≠ some d := fun hd' => by
          have : @Eq Nat d (base + j) := b1 _ hd'
          omega
        simpa using hm
    · rfl
  · split
    · rename_i d hd
      have e1 : @Eq Nat d (base + j) := b1 d hd
      have hm : d ∉ oi.looksAt ops := fun hm => by
        rcases a2 _ hm with hlt | ⟨e, he, hb, heq⟩
        · omega
        · have h1 := haf e he hb
          have hej : e.on = j := by omega
          rw [hej] at h1
          rcases Nat.lt_or_ge j listed.size with h' | h'
          · simp [h'] at h1 hun
            rw [h1] at hun
            cases hun
          · simp [Array.getElem?_eq_none h'] at h1
      simpa using hm
    · rfl
/-- The beginning. -/
theorem startC {id : Nat} {a : Act} {w : World} (n : Nat) (L : List Bool) (base : Nat) (hn : ops.size = n) (hL : List.replicate n false = L) (hm : P.follows .mixedOrders = true)
    (hlaw : (lawful .any ops base && Region.noSelect ops) = true) (hS : S w.drew)
    (h : (lawful .any ops base = true ∧ Region.noSelect ops = true) → S w.drew → wpAnyH P .any ops (NoPanic Q) S n L.toArray a w.drew) : (Code.region id ops true).wp P Q a w := by
  refine wp_region_noPanic (wp_region_held_drew hm hS fun hS' => ?_)
  have := h (by simpa using hlaw) hS'
  rw [← hL] at this
  rw [hn]
  simpa using this
/-- An operation that only reads is taken first. -/
theorem takeC (hlaw : lawful md ops base = true ∧ Region.noSelect ops = true) {i : Nat} {dst : Option Tmp} {op : Op} {ty : TypeId} {pos : String} {after : Array Edge} {v : Value} {fuel : Nat} {listed : Array Bool} {a : Act} {w : World}
    (hi : ops[i]? = some ⟨dst, op, ty, pos, after, none⟩) (hun : listed.getD i true = false) (haf : (after.all fun e => !Region.binds md e || listed.getD e.on false) = true)
    (hy : ∀ w, S w → (execOp a.eval ⟨dst, op, ty, pos, after, none⟩).run P w = .ok (.value v) w) (hS : S w)
    (h : wpAnyH P md ops (NoPanic Q) S fuel (listed.setIfInBounds i true) (a.put dst v) w) : wpAnyH P md ops (NoPanic Q) S (fuel + 1) listed a w := by
  have hr : i ∈ Region.ready md ops listed := mem_ready.2 ⟨hun, _, hi, fun e he hb => by
    have := (Array.all_eq_true_iff_forall_mem.1 haf) e he
    simpa [hb] using this⟩
  refine wpAnyH_first hi (Region.noSelect_spec hlaw.2) (fun _ _ _ h => h) fuel listed a w (lawful_apart hlaw.1 hi hr) hr (.inl ⟨?_, hy⟩) hS h
  simp [Region.wanted]
/-- One operation alone may come up. -/
theorem readyC {i : Nat} {dst : Option Tmp} {op : Op} {ty : TypeId} {pos : String} {after : Array Edge} {fuel : Nat} {listed : Array Bool} {a : Act} {w : World}
    (hr : Region.ready md ops listed = [i]) (hi : ops[i]? = some ⟨dst, op, ty, pos, after, none⟩)
    (h : ∀ K' : Act → World → Prop, Shut (∀ a w, S w → (S w → wpAnyH P md ops Q S fuel (listed.setIfInBounds i true) a w) → K' a w) → Oper.wp P ⟨dst, op, ty, pos, after, none⟩ a w K' Q) : wpAnyH P md ops Q S (fuel + 1) listed a w := by
  refine wpAnyH_ready hr (by simp) (AllReadyH.cons hi (fun K hK => ?_) AllReadyH.nil)
  rw [if_pos (by simp [Region.wanted])]
  exact h K hK
end
set_option maxRecDepth 100000 in
/-- A call that makes 0 or 1 of a bool. -/
theorem bitC {md : Region.Mode} {ops : Array Oper} {Q : Exit → Act → World → Prop} {S : World → Prop} {i : Nat} {dst : Option Tmp} {ty : TypeId} {pos : String} {after : Array Edge} {t : Nat} {fuel : Nat} {listed : Array Bool} {a : Act} {w : World}
    (hr : Region.ready md ops listed = [i]) (hi : ops[i]? = some ⟨dst, .call { callee := .value (.func 70), args := #[.tmp t], argTypes := #[4] }, ty, pos, after, none⟩)
    (n : Nat) (h : n < 2) (hS : S w) (hx : a.tmps[t]?.getD undef = .bool (bt n))
    (hn : wpAnyH Tryz.prog md ops Q S fuel (listed.setIfInBounds i true) (a.put dst (.int .u64 n)) w) : wpAnyH Tryz.prog md ops Q S (fuel + 1) listed a w := by
  refine readyC hr hi (fun K hK => ?_)
  have := step_bit (o := ⟨dst, .call { callee := .value (.func 70), args := #[.tmp t], argTypes := #[4] }, ty, pos, after, none⟩) (ops := ops) (a := a) (w := w) (K := K) (Q := Q) (E := True) rfl t rfl n h hx (hK.out _ _ hS fun _ => hn)
  rwa [if_pos (by simp [Region.wanted])] at this
end Go.Proofs.YtphmklgbbpiafaaGreat
