import Derived.Test.Qxb6601879aSmall
/-! The model in memory: a row of rows, each row's pairs a row of their own. -/
namespace Go.Proofs.Qxb6601879a
open Go.RowKit Go.Maps

section flat
variable {α : Type} {g : α → List Value} {k : Nat}

theorem flat_length (hk : ∀ x, (g x).length = k) (l : List α) : (l.flatMap g).length = l.length * k := by
  induction l with
  | nil => simp
  | cons x l ih => rw [List.flatMap_cons, List.length_append, ih, hk, List.length_cons, Nat.add_mul]; omega

theorem flat_at (hk : ∀ x, (g x).length = k) : ∀ (l : List α) (i r : Nat) (x : α), l[i]? = some x → r < k → (l.flatMap g)[i * k + r]? = (g x)[r]?
  | [], i, r, x, h, _ => by simp at h
  | x0 :: l, 0, r, x, h, hr => by
    obtain rfl : x0 = x := by simpa using h
    rw [List.flatMap_cons, Nat.zero_mul, Nat.zero_add, List.getElem?_append_left (by rw [hk]; exact hr)]
  | x0 :: l, i + 1, r, x, h, hr => by
    have ih := flat_at hk l i r x (by simpa using h) hr
    rw [List.flatMap_cons, List.getElem?_append_right (by rw [hk, Nat.add_mul]; omega), hk, ← ih]
    congr 1
    rw [Nat.add_mul]; omega

theorem flat_set (hk : ∀ x, (g x).length = k) : ∀ (l : List α) (i r : Nat) (x x' : α) (v : Value), l[i]? = some x → r < k → g x' = (g x).set r v → (l.set i x').flatMap g = (l.flatMap g).set (i * k + r) v
  | [], i, r, x, x', v, h, _, _ => by simp at h
  | x0 :: l, 0, r, x, x', v, h, hr, e => by
    obtain rfl : x0 = x := by simpa using h
    rw [List.set_cons_zero, List.flatMap_cons, List.flatMap_cons, e, Nat.zero_mul, Nat.zero_add, List.set_append_left _ _ (by rw [hk]; exact hr)]
  | x0 :: l, i + 1, r, x, x', v, h, hr, e => by
    have ih := flat_set hk l i r x x' v (by simpa using h) hr e
    rw [List.set_cons_succ, List.flatMap_cons, List.flatMap_cons, ih, List.set_append_right _ _ (by rw [hk, Nat.add_mul]; omega), hk]
    congr 2
    rw [Nat.add_mul]; omega
end flat

def pair2 (p : ByteArray × Int) : List Value := [.string p.1, .int .i64 p.2]
def row3 (q : ByteArray × Pairs × Value) : List Value := [.string q.1, .bool false, q.2.2]
theorem pair2_len (p : ByteArray × Int) : (pair2 p).length = 2 := rfl
theorem row3_len (q : ByteArray × Pairs × Value) : (row3 q).length = 3 := rfl
def flatP (ps : Pairs) : List Value := ps.flatMap pair2
def flatQ (Q : List (ByteArray × Pairs × Value)) : List Value := Q.flatMap row3
/-- The model that the rows stand for. -/
def rowsOf (Q : List (ByteArray × Pairs × Value)) : Rws := Q.map (fun q => (q.1, q.2.1))

theorem add_lit (b o j : Nat) : (⟨b, o, none⟩ : Addr).add j = ⟨b, o + j, none⟩ := by unfold Addr.add; split <;> simp_all

/-- A cell of an owned row. -/
theorem row_cell {w : World} {base e size n : Nat} {v : Value} {xs : List Value} (h : w.ownsRow base e size v n xs) {j : Nat} {u : Value} (hj : xs[j]? = some u) :
    ∃ g cap, v = .slice (some ⟨g, 0, none⟩) n cap ∧ base ≤ g ∧ w.cell? ⟨g, j, none⟩ = some u ∧ w.frozen? ⟨g, j, none⟩ = false := by
  have hjl : j < xs.length := (List.getElem?_eq_some_iff.1 hj).1
  rcases h.2 with ⟨_, h0⟩ | ⟨g, cap, cur, rfl, hb, hg, _⟩
  · have := h.1; rw [h0, Nat.zero_mul] at this; omega
  · have := h.cells (g := g) rfl j u hj
    rw [add_lit, Nat.zero_add] at this
    exact ⟨g, cap, rfl, hb, this, by simp [World.frozen?, hg]⟩

theorem row_form {w : World} {base e size n : Nat} {v : Value} {xs : List Value} (h : w.ownsRow base e size v n xs) : ∃ o c, v = .slice o n c := by
  rcases h.2 with ⟨rfl, rfl⟩ | ⟨g, cap, cur, rfl, _⟩
  · exact ⟨none, 0, rfl⟩
  · exact ⟨_, _, rfl⟩

theorem row_same {w w' : World} {base : Nat} {e : TypeId} {size : Nat} {v : Value} {n : Nat} {xs : List Value} (h : w.ownsRow base e size v n xs) (hb : ∀ k, v.ownBlock = some k → w'.heap[k]? = w.heap[k]?) : w'.ownsRow base e size v n xs := by
  obtain ⟨h1, h2⟩ := h
  refine ⟨h1, ?_⟩
  rcases h2 with h2 | ⟨k, cap, cur, rfl, hk, hh, r⟩
  · exact .inl h2
  · exact .inr ⟨k, cap, cur, rfl, hk, (hb k rfl).trans hh, r⟩

theorem row_block {w : World} {base : Nat} {e : TypeId} {size : Nat} {v : Value} {n : Nat} {xs : List Value} (h : w.ownsRow base e size v n xs) {k : Nat} (hk : v.ownBlock = some k) : ∃ cur, w.heap[k]? = some (.cells cur e (0, 0)) := by
  obtain ⟨_, h2⟩ := h
  rcases h2 with ⟨rfl, _⟩ | ⟨k', cap, cur, rfl, _, hh, _⟩
  · simp [Value.ownBlock] at hk
  · simp [Value.ownBlock] at hk; subst hk; exact ⟨cur, hh⟩

/-- A cell of an owned row written. -/
theorem row_set {w : World} {base : Nat} {e : TypeId} {size : Nat} {n : Nat} {xs : List Value} {g cap : Nat} (h : w.ownsRow base e size (.slice (some ⟨g, 0, none⟩) n cap) n xs) (j : Nat) (u : Value) :
    (w.setCell ⟨g, j, none⟩ u).ownsRow base e size (.slice (some ⟨g, 0, none⟩) n cap) n (xs.set j u) := by
  obtain ⟨h1, h2⟩ := h
  refine ⟨by rw [List.length_set]; exact h1, ?_⟩
  rcases h2 with ⟨h2, _⟩ | ⟨g', cap', cur, h3, hb, hg, h4, h5, h6, h7⟩
  · cases h2
  · cases h3
    refine .inr ⟨g, cap, cur.setIfInBounds j u, rfl, hb, heap_setCell_same w g j cur e u hg, h4, h5, by simpa using h6, ?_⟩
    rw [Array.toList_setIfInBounds, List.take_set, h7]

theorem rows_apart {w : World} {base e e' : Nat} {size size' n n' : Nat} {v v' : Value} {xs xs' : List Value} (h : w.ownsRow base e size v n xs) (h' : w.ownsRow base e' size' v' n' xs') (hne : e ≠ e') {k : Nat} (hk : v.ownBlock = some k) : v'.ownBlock ≠ some k := by
  intro hk'
  obtain ⟨c, hc⟩ := row_block h hk
  obtain ⟨c', hc'⟩ := row_block h' hk'
  rw [hc] at hc'
  cases hc'
  exact hne rfl

/-- The answer of a search. -/
def ixI (o : Option Nat) : Int := match o with | some j => j | none => -1

theorem bytes_eq {a b : ByteArray} (h : a.toList = b.toList) : a = b := by
  rw [ByteArray.toList_eq, ByteArray.toList_eq] at h
  obtain ⟨⟨l⟩⟩ := a
  obtain ⟨⟨m⟩⟩ := b
  exact congrArg (fun l : List UInt8 => (⟨⟨l⟩⟩ : ByteArray)) h

theorem ret_int {k : IntKind} {a b : Int} (h : a = b) : Ending.returned (.int k a) = .returned (.int k b) := by rw [h]

set_option maxHeartbeats 400000 in
theorem find24 {w : World} {base : Nat} {op : Option Addr} {cp : Nat} {ps : Pairs} (h : w.ownsRow base 50 2 (.slice op ps.length cp) ps.length (flatP ps)) (hl : ps.length ≤ maxLen) (b : ByteArray) :
    Calls Try.prog 24 #[.slice op ps.length cp, .string b] w fun e w' => e = .returned (.int .i64 (ixI (ixOf ps b))) ∧ w' = w := by
  unfold maxLen at hl
  go_enter Try.func24, Try.ntmps24
  go_wp2
  go_loop [5] (fun q => ∃ k : Nat, q = .int .i64 k ∧ k ≤ ps.length ∧ Hid (∀ i, i < k → ∀ p, ps[i]? = some p → p.1 ≠ b)) (fun q => ps.length - (intOf q).toNat)
  case atStart => exact ⟨0, rfl, Nat.zero_le _, fun i hi => absurd hi (Nat.not_lt_zero _)⟩
  case round =>
    obtain ⟨k, rfl, hk, H⟩ := hrel
    by_cases hlt : k < ps.length
    · obtain ⟨p, hp⟩ : ∃ p, ps[k]? = some p := ⟨_, List.getElem?_eq_getElem hlt⟩
      obtain ⟨g, cap, e1, _, c0, _⟩ := row_cell h (j := k * 2 + 0) (u := .string p.1) (by rw [flatP, flat_at pair2_len ps k 0 p hp (by omega)]; rfl)
      obtain ⟨rfl, rfl⟩ : op = some ⟨g, 0, none⟩ ∧ cp = cap := by injection e1 with a1 a2 a3; exact ⟨a1, a3⟩
      have hkI : (k : Int) < (ps.length : Int) := by omega
      have HP : Hid _ := hp
      clear h e1 hp
      rw [Nat.add_zero] at c0
      by_cases e : p.1 = b
      · have t1 : (p.1.toList == b.toList) = true := by simp [e]
        have E : Hid _ := e
        clear e
        go_wp2
        go_ret
        exact ⟨ret_int (by rw [ix_of_first HP.out E.out H.out]; rfl), rfl⟩
      · have t1 : (p.1.toList == b.toList) = false := by simpa using fun e' => e (bytes_eq e')
        have E : Hid _ := e
        clear e
        go_wp2
        go_round
        case rel => exact ⟨k + 1, by go_num, by omega, fun i hi q hq => by
          rcases Nat.lt_succ_iff_lt_or_eq.1 hi with h | rfl
          · exact H.out i h q hq
          · rw [HP.out] at hq; cases hq; exact E.out⟩
        case measure => simp [intOf]; omega
    · go_wp2
      go_ret
      exact ⟨ret_int (by rw [ix_of_none (fun i q hq => H.out i (by have := (List.getElem?_eq_some_iff.1 hq).1; omega) q hq)]; rfl), rfl⟩

set_option maxHeartbeats 400000 in
theorem find23 {w : World} {base : Nat} {op : Option Addr} {cp : Nat} {Q : List (ByteArray × Pairs × Value)} (h : w.ownsRow base 48 3 (.slice op Q.length cp) Q.length (flatQ Q)) (hl : Q.length ≤ maxLen) (b : ByteArray) :
    Calls Try.prog 23 #[.slice op Q.length cp, .string b] w fun e w' => e = .returned (.int .i64 (ixI (ixOf Q b))) ∧ w' = w := by
  unfold maxLen at hl
  go_enter Try.func23, Try.ntmps23
  go_wp2
  go_loop [5] (fun q => ∃ k : Nat, q = .int .i64 k ∧ k ≤ Q.length ∧ Hid (∀ i, i < k → ∀ p, Q[i]? = some p → p.1 ≠ b)) (fun q => Q.length - (intOf q).toNat)
  case atStart => exact ⟨0, rfl, Nat.zero_le _, fun i hi => absurd hi (Nat.not_lt_zero _)⟩
  case round =>
    obtain ⟨k, rfl, hk, H⟩ := hrel
    by_cases hlt : k < Q.length
    · obtain ⟨p, hp⟩ : ∃ p, Q[k]? = some p := ⟨_, List.getElem?_eq_getElem hlt⟩
      obtain ⟨g, cap, e1, _, c0, _⟩ := row_cell h (j := k * 3 + 0) (u := .string p.1) (by rw [flatQ, flat_at row3_len Q k 0 p hp (by omega)]; rfl)
      obtain ⟨rfl, rfl⟩ : op = some ⟨g, 0, none⟩ ∧ cp = cap := by injection e1 with a1 a2 a3; exact ⟨a1, a3⟩
      have hkI : (k : Int) < (Q.length : Int) := by omega
      have HP : Hid _ := hp
      clear h e1 hp
      rw [Nat.add_zero] at c0
      by_cases e : p.1 = b
      · have t1 : (p.1.toList == b.toList) = true := by simp [e]
        have E : Hid _ := e
        clear e
        go_wp2
        go_ret
        exact ⟨ret_int (by rw [ix_of_first HP.out E.out H.out]; rfl), rfl⟩
      · have t1 : (p.1.toList == b.toList) = false := by simpa using fun e' => e (bytes_eq e')
        have E : Hid _ := e
        clear e
        go_wp2
        go_round
        case rel => exact ⟨k + 1, by go_num, by omega, fun i hi q hq => by
          rcases Nat.lt_succ_iff_lt_or_eq.1 hi with h | rfl
          · exact H.out i h q hq
          · rw [HP.out] at hq; cases hq; exact E.out⟩
        case measure => simp [intOf]; omega
    · go_wp2
      go_ret
      exact ⟨ret_int (by rw [ix_of_none (fun i q hq => H.out i (by have := (List.getElem?_eq_some_iff.1 hq).1; omega) q hq)]; rfl), rfl⟩

end Go.Proofs.Qxb6601879a
