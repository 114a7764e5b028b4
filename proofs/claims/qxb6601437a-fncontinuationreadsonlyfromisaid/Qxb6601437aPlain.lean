import Derived.WalkKit
namespace Go.Proofs.Qxb6601437a.Plain

/-- What 'continuation' looks for, over the bytes from its start on: 'm': inside a comment; 'nl': a newline was met. -/
def cont (m nl : Bool) : List UInt8 → Option Nat
  | [] => none
  | c :: r =>
    if c = 10 ∨ c = 13 then (cont false true r).map (· + 1)
    else if m = true then (cont true nl r).map (· + 1)
    else if c = 32 ∨ c = 9 ∨ c = 12 ∨ (c = 11 ∧ nl = true) then (cont false nl r).map (· + 1)
    else if c = 45 ∧ r.head? = some 45 then (cont true nl r).map (· + 1)
    else if c = 39 ∧ nl = true then some 0
    else none

/-- An answer is a quote within the list, and what follows it does not matter. -/
theorem cont_some (l : List UInt8) : ∀ (m nl : Bool) (k : Nat) (t : List UInt8), cont m nl l = some k →
    k < l.length ∧ l[k]? = some 39 ∧ cont m nl (l.take (k + 1) ++ t) = some k := by
  induction l with
  | nil => intro m nl k t h; simp [cont] at h
  | cons c r ih =>
    intro m nl k t h
    rw [cont] at h
    by_cases h1 : c = 10 ∨ c = 13
    · rw [if_pos h1] at h
      obtain ⟨j, hj, rfl⟩ := Option.map_eq_some_iff.1 h
      obtain ⟨a, b, d⟩ := ih _ _ _ t hj
      refine ⟨by simp; omega, by simpa using b, ?_⟩
      rw [List.take_succ_cons, List.cons_append, cont, if_pos h1, d]; rfl
    rw [if_neg h1] at h
    by_cases h2 : m = true
    · rw [if_pos h2] at h
      obtain ⟨j, hj, rfl⟩ := Option.map_eq_some_iff.1 h
      obtain ⟨a, b, d⟩ := ih _ _ _ t hj
      refine ⟨by simp; omega, by simpa using b, ?_⟩
      rw [List.take_succ_cons, List.cons_append, cont, if_neg h1, if_pos h2, d]; rfl
    rw [if_neg h2] at h
    by_cases h3 : c = 32 ∨ c = 9 ∨ c = 12 ∨ (c = 11 ∧ nl = true)
    · rw [if_pos h3] at h
      obtain ⟨j, hj, rfl⟩ := Option.map_eq_some_iff.1 h
      obtain ⟨a, b, d⟩ := ih _ _ _ t hj
      refine ⟨by simp; omega, by simpa using b, ?_⟩
      rw [List.take_succ_cons, List.cons_append, cont, if_neg h1, if_neg h2, if_pos h3, d]; rfl
    rw [if_neg h3] at h
    by_cases h4 : c = 45 ∧ r.head? = some 45
    · rw [if_pos h4] at h
      obtain ⟨j, hj, rfl⟩ := Option.map_eq_some_iff.1 h
      obtain ⟨a, b, d⟩ := ih _ _ _ t hj
      refine ⟨by simp; omega, by simpa using b, ?_⟩
      have h4' : c = 45 ∧ (r.take (j + 1) ++ t).head? = some 45 := by
        refine ⟨h4.1, ?_⟩
        cases r with
        | nil => simp at a
        | cons x r => simpa using h4.2
      rw [List.take_succ_cons, List.cons_append, cont, if_neg h1, if_neg h2, if_neg h3, if_pos h4', d]; rfl
    rw [if_neg h4] at h
    by_cases h5 : c = 39 ∧ nl = true
    · rw [if_pos h5] at h
      obtain rfl := Option.some.inj h
      refine ⟨by simp, by simp [h5.1], ?_⟩
      have h4' : ¬ (c = 45 ∧ ((r.take 0) ++ t).head? = some 45) := by
        rintro ⟨e, _⟩; rw [h5.1] at e; exact absurd e (by decide)
      rw [List.take_succ_cons, List.cons_append, cont, if_neg h1, if_neg h2, if_neg h3, if_neg h4', if_pos h5]
    · rw [if_neg h5] at h; cases h

/-- The answer as Go gives it: an offset, or -1. -/
def res (s : List UInt8) (i : Nat) (m nl : Bool) : Int :=
  match cont m nl (s.drop i) with
  | some k => (i : Int) + k
  | none => -1

theorem res_end {s : List UInt8} {i : Nat} (m nl : Bool) (h : s.length ≤ i) : res s i m nl = -1 := by
  unfold res; rw [List.drop_eq_nil_of_le h]; rfl

theorem res_map {s : List UInt8} {i : Nat} {m nl m' nl' : Bool} (h : cont m nl (s.drop i) = (cont m' nl' (s.drop (i + 1))).map (· + 1)) :
    res s i m nl = res s (i + 1) m' nl' := by
  unfold res; rw [h]
  cases cont m' nl' (s.drop (i + 1)) with
  | none => rfl
  | some k => simp; omega

variable {s : List UInt8} {i : Nat} {nl : Bool} {c : UInt8}

theorem drop_at (h : s[i]? = some c) : s.drop i = c :: s.drop (i + 1) := by
  obtain ⟨hi, e⟩ := List.getElem?_eq_some_iff.1 h
  rw [List.drop_eq_getElem_cons hi, e]

theorem res_nl (m : Bool) (h : s[i]? = some c) (hc : c = 10 ∨ c = 13) : res s i m nl = res s (i + 1) false true :=
  res_map (by rw [drop_at h, cont, if_pos hc])

theorem res_ws (h : s[i]? = some c) (hc : ¬ (c = 10 ∨ c = 13)) (hw : c = 32 ∨ c = 9 ∨ c = 12 ∨ (c = 11 ∧ nl = true)) : res s i false nl = res s (i + 1) false nl :=
  res_map (by rw [drop_at h, cont, if_neg hc, if_neg (by simp), if_pos hw])

theorem res_dash (h : s[i]? = some c) (hc : c = 45) (hd : s[i + 1]? = some 45) : res s i false nl = res s (i + 1) true nl := by
  subst hc
  refine res_map ?_
  rw [drop_at h, cont, if_neg (by decide), if_neg (by simp), if_neg (by simp), if_pos ⟨rfl, by rw [drop_at hd]; rfl⟩]

theorem res_quote (h : s[i]? = some c) (hc : c = 39) (hn : nl = true) : res s i false nl = i := by
  subst hc hn
  unfold res
  rw [drop_at h, cont, if_neg (by decide), if_neg (by simp), if_neg (by decide), if_neg (by simp), if_pos (by simp)]
  simp

theorem res_other (h : s[i]? = some c) (h1 : ¬ (c = 10 ∨ c = 13)) (h2 : ¬ (c = 32 ∨ c = 9 ∨ c = 12 ∨ (c = 11 ∧ nl = true)))
    (h3 : ¬ (c = 45 ∧ s[i + 1]? = some 45)) (h4 : ¬ (c = 39 ∧ nl = true)) : res s i false nl = -1 := by
  unfold res
  rw [drop_at h, cont, if_neg h1, if_neg (by simp), if_neg h2, if_neg ?_, if_neg h4]
  rwa [List.head?_drop]

theorem res_skip (h : s[i]? = some c) (h1 : ¬ (c = 10 ∨ c = 13)) : res s i true nl = res s (i + 1) true nl :=
  res_map (by rw [drop_at h, cont, if_neg h1, if_pos rfl])

theorem res_stop (h : s[i]? = some c) (h1 : c = 10 ∨ c = 13) : res s i true nl = res s i false nl := by
  rw [res_nl true h h1, res_nl false h h1]

/-- What stands before the start does not matter. -/
theorem res_front (p s : List UInt8) (i : Nat) : res (p ++ s) (p.length + i) false false = if res s i false false = -1 then -1 else res s i false false + p.length := by
  unfold res
  rw [List.drop_append, List.drop_eq_nil_of_le (by omega), List.nil_append, Nat.add_sub_cancel_left]
  cases cont false false (s.drop i) with
  | none => simp
  | some k => simp; rw [if_neg (by omega)]; omega

/-- An answer other than -1 is a quote at or behind the start, and it stands whatever follows it. -/
theorem res_found (s t : List UInt8) (i : Nat) (h : res s i false false ≠ -1) :
    ∃ r : Nat, res s i false false = r ∧ i ≤ r ∧ r < s.length ∧ s[r]? = some 39 ∧ res (s.take (r + 1) ++ t) i false false = r := by
  unfold res at h ⊢
  cases hk : cont false false (s.drop i) with
  | none => rw [hk] at h; exact absurd rfl h
  | some k =>
    obtain ⟨a, b, d⟩ := cont_some (s.drop i) false false k t hk
    rw [List.length_drop] at a
    refine ⟨i + k, by simp, by omega, by omega, by rw [← b, List.getElem?_drop], ?_⟩
    have e : (s.take (i + k + 1) ++ t).drop i = (s.drop i).take (k + 1) ++ t := by
      rw [List.drop_append, List.length_take, List.drop_take]
      rw [show i + k + 1 - i = k + 1 by omega, show i - min (i + k + 1) s.length = 0 by omega, List.drop_zero]
    rw [e, d]; simp
end Go.Proofs.Qxb6601437a.Plain
