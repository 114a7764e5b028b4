import Derived.Test.Qxb6601879aSt
import Derived.BigRegion
/-! zzModelOf builds the model. -/
namespace Go.Proofs.Qxb6601879a
open Go.RowKit Go.Maps

/-- THE MODEL IN MEMORY. Q: the rows, each with its pairs and the slice that holds them. -/
structure StRel (w : World) (base : Nat) (sv : Value) (Q : List (ByteArray × Pairs × Value)) : Prop where
  row : w.ownsRow base 48 3 sv Q.length (flatQ Q)
  prs : ∀ q ∈ Q, w.ownsRow base 50 2 q.2.2 q.2.1.length (flatP q.2.1)
  apart : ∀ (i j : Nat) (q q' : ByteArray × Pairs × Value), Q[i]? = some q → Q[j]? = some q' → i ≠ j → ∀ k, q.2.2.ownBlock = some k → q'.2.2.ownBlock ≠ some k

section
variable {w w' : World} {base : Nat} {sv : Value} {Q : List (ByteArray × Pairs × Value)}

theorem StRel.same (h : StRel w base sv Q) (hb : ∀ (k : Nat) (c : Array Value) (e : TypeId), w.heap[k]? = some (.cells c e (0, 0)) → w'.heap[k]? = w.heap[k]?) : StRel w' base sv Q where
  row := row_same h.row (fun k hk => by obtain ⟨c, hc⟩ := row_block h.row hk; exact hb k c _ hc)
  prs q hq := row_same (h.prs q hq) (fun k hk => by obtain ⟨c, hc⟩ := row_block (h.prs q hq) hk; exact hb k c _ hc)
  apart := h.apart

theorem StRel.alloc (h : StRel w base sv Q) (o : Obj) : StRel (w.alloc o) base sv Q := h.same (fun _ _ _ hc => Below.heap_alloc _ _ _ (Array.getElem?_eq_some_iff.1 hc).1)
theorem StRel.drewN (h : StRel w base sv Q) (n : Nat) : StRel (w.drewN n) base sv Q := h.same (fun _ _ _ _ => rfl)
theorem StRel.drew (h : StRel w base sv Q) : StRel w.drew base sv Q := h.same (fun _ _ _ _ => rfl)
theorem StRel.kept (h : StRel w base sv Q) {b : Nat} (hk : Kept w w' b) : StRel w' base sv Q :=
  h.same (fun k _ _ hc => hk.block k (Array.getElem?_eq_some_iff.1 hc).1 (.inr (fun ⟨_, _, e⟩ => by rw [hc] at e; cases e)))
theorem StRel.below (h : StRel w base sv Q) (hk : Below w.heap.size w w') : StRel w' base sv Q :=
  h.same (fun k _ _ hc => hk.block k (Array.getElem?_eq_some_iff.1 hc).1)

/-- A row more, with no pairs yet. -/
theorem StRel.addRow (h : StRel w base sv Q) {sv' : Value} {a : ByteArray} (hg : w.grownBy w' sv.ownBlock) (hrow : w'.ownsRow base 48 3 sv' (Q.length + 1) (flatQ Q ++ row3 (a, [], .slice none 0 0))) :
    StRel w' base sv' (Q ++ [(a, [], .slice none 0 0)]) where
  row := by
    rw [List.length_append]
    have : flatQ (Q ++ [(a, [], .slice none 0 0)]) = flatQ Q ++ row3 (a, [], .slice none 0 0) := by simp [flatQ]
    rw [this]
    exact hrow
  prs q hq := by
    rcases List.mem_append.1 hq with hq | hq
    · refine (h.prs q hq).kept hg ?_
      cases hv : q.2.2.ownBlock with
      | none => exact .inl rfl
      | some k => exact .inr (fun e => rows_apart (h.prs q hq) h.row (by decide) hv e.symm)
    · rw [List.mem_singleton.1 hq]; exact World.ownsRow_nil _ _ _ _
  apart i j q q' hi hj hij k hk := by
    have hlast : ∀ (n : Nat) (x : ByteArray × Pairs × Value), (Q ++ [(a, [], .slice none 0 0)])[n]? = some x → Q[n]? = some x ∨ x = (a, [], .slice none 0 0) := by
      intro n x hx
      rw [List.getElem?_append] at hx
      split at hx
      · exact .inl hx
      · exact .inr (List.mem_singleton.1 (List.mem_of_getElem? hx))
    rcases hlast i q hi with h1 | h1
    · rcases hlast j q' hj with h2 | h2
      · exact h.apart i j q q' h1 h2 hij k hk
      · rw [h2]; intro e; cases e
    · rw [h1] at hk; cases hk

/-- One row's pairs turned, its slice laid into its cell. -/
theorem StRel.setRow (h : StRel w base sv Q) {o : Nat} {a : ByteArray} {ps ps' : Pairs} {pv pv' : Value} (ho : Q[o]? = some (a, ps, pv)) {gs cap : Nat} (hsv : sv = .slice (some ⟨gs, 0, none⟩) Q.length cap)
    {w1 : World} (hg : w.grownBy w1 pv.ownBlock) (hpv : w1.ownsRow base 50 2 pv' ps'.length (flatP ps')) (hat : ∀ k, pv'.ownBlock = some k → pv.ownBlock = some k ∨ w.heap.size ≤ k) :
    StRel (w1.setCell ⟨gs, o * 3 + 2, none⟩ pv') base sv (Q.set o (a, ps', pv')) := by
  subst hsv
  have hp0 := h.prs _ (List.mem_of_getElem? ho)
  have hrow1 : w1.ownsRow base 48 3 (.slice (some ⟨gs, 0, none⟩) Q.length cap) Q.length (flatQ Q) := by
    refine h.row.kept hg (.inr (fun e => ?_))
    exact rows_apart h.row hp0 (by decide) (k := gs) rfl (e.symm.trans rfl)
  have hgs : ∀ (v : Value) (n : Nat) (xs : List Value), w1.ownsRow base 50 2 v n xs → (w1.setCell ⟨gs, o * 3 + 2, none⟩ pv').ownsRow base 50 2 v n xs := by
    intro v n xs hv
    refine row_same hv (fun k hk => Below.heap_setCell _ _ _ _ (fun e => ?_))
    subst e
    exact rows_apart hv hrow1 (by decide) hk rfl
  have hmem : ∀ (n : Nat) (x : ByteArray × Pairs × Value), (Q.set o (a, ps', pv'))[n]? = some x → (n = o ∧ x = (a, ps', pv')) ∨ (n ≠ o ∧ Q[n]? = some x) := by
    intro n x hx
    rw [List.getElem?_set] at hx
    by_cases e : o = n
    · rw [if_pos e] at hx
      split at hx
      · cases hx; exact .inl ⟨e.symm, rfl⟩
      · cases hx
    · rw [if_neg e] at hx; exact .inr ⟨fun e' => e e'.symm, hx⟩
  refine ⟨?_, ?_, ?_⟩
  · rw [List.length_set]
    have e : flatQ (Q.set o (a, ps', pv')) = (flatQ Q).set (o * 3 + 2) pv' := flat_set row3_len Q o 2 _ _ _ ho (by omega) rfl
    rw [e]
    exact row_set hrow1 _ _
  · intro q hq
    obtain ⟨n, hn⟩ := List.mem_iff_getElem?.1 hq
    rcases hmem n q hn with ⟨_, rfl⟩ | ⟨hne, hn'⟩
    · exact hgs _ _ _ hpv
    · have hq0 := h.prs q (List.mem_of_getElem? hn')
      refine hgs _ _ _ (hq0.kept hg ?_)
      cases hv : q.2.2.ownBlock with
      | none => exact .inl rfl
      | some k => exact .inr (fun e => h.apart n o q _ hn' ho hne k hv e.symm)
  · intro i j q q' hi hj hij k hk
    rcases hmem i q hi with ⟨hio, rfl⟩ | ⟨hne, hi'⟩
    · rcases hmem j q' hj with ⟨hjo, _⟩ | ⟨hne', hj'⟩
      · omega
      · rcases hat k hk with h1 | h1
        · exact h.apart o j _ q' ho hj' (fun e => hne' e.symm) k h1
        · intro e
          have := ((h.prs q' (List.mem_of_getElem? hj')).lt k e).2
          omega
    · rcases hmem j q' hj with ⟨hjo, rfl⟩ | ⟨hne', hj'⟩
      · intro e
        rcases hat k e with h1 | h1
        · exact h.apart i o q _ hi' ho hne k hk h1
        · have := ((h.prs q (List.mem_of_getElem? hi')).lt k hk).2
          omega
      · exact h.apart i j q q' hi' hj' hij k hk

/-- One pair's count written in its place. -/
theorem StRel.setN (h : StRel w base sv Q) {o : Nat} {a b : ByteArray} {ps : Pairs} {pv : Value} (ho : Q[o]? = some (a, ps, pv)) {gp cap j : Nat} (hpv : pv = .slice (some ⟨gp, 0, none⟩) ps.length cap) {n0 : Int} (hj : ps[j]? = some (b, n0)) (n : Int) :
    StRel (w.setCell ⟨gp, j * 2 + 1, none⟩ (.int .i64 n)) base sv (Q.set o (a, ps.set j (b, n), pv)) := by
  have hp0 := h.prs _ (List.mem_of_getElem? ho)
  have hother : ∀ (e : TypeId) (size : Nat) (v : Value) (n : Nat) (xs : List Value), w.ownsRow base e size v n xs → (∀ k, v.ownBlock = some k → k ≠ gp) → ∀ u, (w.setCell ⟨gp, j * 2 + 1, none⟩ u).ownsRow base e size v n xs := by
    intro e size v n xs hv hne u
    exact row_same hv (fun k hk => Below.heap_setCell _ _ _ _ (hne k hk))
  have hmem : ∀ (m : Nat) (x : ByteArray × Pairs × Value), (Q.set o (a, ps.set j (b, n), pv))[m]? = some x → (m = o ∧ x = (a, ps.set j (b, n), pv)) ∨ (m ≠ o ∧ Q[m]? = some x) := by
    intro m x hx
    rw [List.getElem?_set] at hx
    by_cases e : o = m
    · rw [if_pos e] at hx
      split at hx
      · cases hx; exact .inl ⟨e.symm, rfl⟩
      · cases hx
    · rw [if_neg e] at hx; exact .inr ⟨fun e' => e e'.symm, hx⟩
  have hown : pv.ownBlock = some gp := by rw [hpv]; rfl
  refine ⟨?_, ?_, ?_⟩
  · rw [List.length_set]
    have hol : o < Q.length := (List.getElem?_eq_some_iff.1 ho).1
    have e : flatQ (Q.set o (a, ps.set j (b, n), pv)) = (flatQ Q).set (o * 3 + 2) pv := flat_set row3_len Q o 2 _ _ _ ho (by omega) rfl
    have e' : (flatQ Q).set (o * 3 + 2) pv = flatQ Q := by
      have hget : (flatQ Q)[o * 3 + 2]? = some pv := by rw [flatQ, flat_at row3_len Q o 2 _ ho (by omega)]; rfl
      apply List.ext_getElem?
      intro i
      rw [List.getElem?_set]
      split
      · rename_i hi; subst hi; rw [hget]; simp [(List.getElem?_eq_some_iff.1 hget).1]
      · rfl
    rw [e, e']
    exact hother _ _ _ _ _ h.row (fun k hk e => rows_apart hp0 h.row (by decide) hown (by rw [hk, e])) _
  · intro q hq
    obtain ⟨m, hm⟩ := List.mem_iff_getElem?.1 hq
    rcases hmem m q hm with ⟨_, rfl⟩ | ⟨hne, hm'⟩
    · show (w.setCell _ _).ownsRow base 50 2 pv (ps.set j (b, n)).length (flatP (ps.set j (b, n)))
      have e : flatP (ps.set j (b, n)) = (flatP ps).set (j * 2 + 1) (.int .i64 n) := flat_set pair2_len ps j 1 _ _ _ hj (by omega) rfl
      rw [List.length_set, e, hpv]
      rw [hpv] at hp0
      exact row_set hp0 _ _
    · have hq0 := h.prs q (List.mem_of_getElem? hm')
      exact hother _ _ _ _ _ hq0 (fun k hk e => h.apart m o q _ hm' ho hne k hk (by rw [e]; exact hown)) _
  · intro i i' q q' hi hj hij k hk
    rcases hmem i q hi with ⟨hio, rfl⟩ | ⟨hne, hi'⟩
    · rcases hmem i' q' hj with ⟨hjo, _⟩ | ⟨hne', hj'⟩
      · omega
      · exact h.apart o i' _ q' ho hj' (fun e => hne' e.symm) k hk
    · rcases hmem i' q' hj with ⟨hjo, rfl⟩ | ⟨hne', hj'⟩
      · exact h.apart i o q _ hi' ho hne k hk
      · exact h.apart i i' q q' hi' hj' hij k hk
end

theorem ix_rowsOf (Q : List (ByteArray × Pairs × Value)) (a : ByteArray) : ixOf (rowsOf Q) a = ixOf Q a := by
  unfold ixOf rowsOf
  rw [List.findIdx?_map]
  rfl

theorem rowsOf_set (Q : List (ByteArray × Pairs × Value)) (o : Nat) (a : ByteArray) (ps : Pairs) (pv : Value) : rowsOf (Q.set o (a, ps, pv)) = (rowsOf Q).set o (a, ps) := by
  unfold rowsOf; rw [List.map_set]

theorem rowsOf_get {Q : List (ByteArray × Pairs × Value)} {o : Nat} {a : ByteArray} {ps : Pairs} {pv : Value} (h : Q[o]? = some (a, ps, pv)) : (rowsOf Q)[o]? = some (a, ps) := by
  simp [rowsOf, h]

end Go.Proofs.Qxb6601879a
