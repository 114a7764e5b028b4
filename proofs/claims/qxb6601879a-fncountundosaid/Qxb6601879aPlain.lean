import Derived.Test.Qxb6601879aMaps
/-! Association lists keyed by strings: the first match counts. -/
namespace Go.Proofs.Qxb6601879a

section
variable {β : Type}

/-- The first place that bears the key. -/
def ixOf (l : List (ByteArray × β)) (k : ByteArray) : Option Nat := l.findIdx? (fun p => decide (p.1 = k))
/-- What stands there. -/
def get (l : List (ByteArray × β)) (k : ByteArray) : Option β := (l.find? (fun p => decide (p.1 = k))).map (·.2)
/-- v at the key: in its first place, or behind all. -/
def put (l : List (ByteArray × β)) (k : ByteArray) (v : β) : List (ByteArray × β) :=
  match ixOf l k with
  | some j => l.set j (k, v)
  | none => l ++ [(k, v)]

theorem ix_cons (p : ByteArray × β) (l : List (ByteArray × β)) (k : ByteArray) : ixOf (p :: l) k = if p.1 = k then some 0 else (ixOf l k).map (· + 1) := by
  unfold ixOf
  rw [List.findIdx?_cons]
  by_cases h : p.1 = k <;> simp [h]

theorem get_cons (p : ByteArray × β) (l : List (ByteArray × β)) (k : ByteArray) : get (p :: l) k = if p.1 = k then some p.2 else get l k := by
  unfold get
  by_cases h : p.1 = k <;> simp [h]

theorem put_cons (p : ByteArray × β) (l : List (ByteArray × β)) (k : ByteArray) (v : β) : put (p :: l) k v = if p.1 = k then (k, v) :: l else p :: put l k v := by
  unfold put
  rw [ix_cons]
  by_cases h : p.1 = k
  · simp [h]
  · simp only [if_neg h]
    cases ixOf l k <;> simp

theorem put_nil (k : ByteArray) (v : β) : put ([] : List (ByteArray × β)) k v = [(k, v)] := rfl
theorem get_nil (k : ByteArray) : get ([] : List (ByteArray × β)) k = none := rfl

theorem get_put_same (l : List (ByteArray × β)) (k : ByteArray) (v : β) : get (put l k v) k = some v := by
  induction l with
  | nil => rw [put_nil, get_cons, if_pos rfl]
  | cons p l ih =>
    rw [put_cons]
    by_cases h : p.1 = k
    · rw [if_pos h, get_cons, if_pos rfl]
    · rw [if_neg h, get_cons, if_neg h, ih]

theorem get_put_other (l : List (ByteArray × β)) {k k' : ByteArray} (v : β) (hne : k' ≠ k) : get (put l k v) k' = get l k' := by
  induction l with
  | nil => rw [put_nil, get_cons, if_neg (fun e => hne e.symm)]
  | cons p l ih =>
    rw [put_cons]
    by_cases h : p.1 = k
    · rw [if_pos h, get_cons, get_cons, if_neg (fun e => hne e.symm), if_neg (fun e => hne (e.symm.trans h))]
    · rw [if_neg h, get_cons, get_cons, ih]

theorem length_put (l : List (ByteArray × β)) (k : ByteArray) (v : β) : (put l k v).length = if (get l k).isSome then l.length else l.length + 1 := by
  induction l with
  | nil => rfl
  | cons p l ih =>
    rw [put_cons, get_cons]
    by_cases h : p.1 = k
    · simp [h]
    · simp only [if_neg h, List.length_cons, ih]
      split <;> rfl

theorem ix_some {l : List (ByteArray × β)} {k : ByteArray} {j : Nat} (h : ixOf l k = some j) : ∃ v, l[j]? = some (k, v) ∧ get l k = some v := by
  induction l generalizing j with
  | nil => cases h
  | cons p l ih =>
    rw [ix_cons] at h
    by_cases hp : p.1 = k
    · rw [if_pos hp] at h
      cases h
      exact ⟨p.2, by rw [← hp]; rfl, by rw [get_cons, if_pos hp]⟩
    · rw [if_neg hp] at h
      obtain ⟨j', hj', rfl⟩ := Option.map_eq_some_iff.1 h
      obtain ⟨v, h1, h2⟩ := ih hj'
      exact ⟨v, by simpa using h1, by rw [get_cons, if_neg hp, h2]⟩

theorem ix_none {l : List (ByteArray × β)} {k : ByteArray} (h : ixOf l k = none) : get l k = none := by
  induction l with
  | nil => rfl
  | cons p l ih =>
    rw [ix_cons] at h
    by_cases hp : p.1 = k
    · rw [if_pos hp] at h; cases h
    · rw [if_neg hp] at h
      rw [get_cons, if_neg hp, ih (Option.map_eq_none_iff.1 h)]

/-- The search by hand: no place below j bears the key, place j does. -/
theorem ix_of_first {l : List (ByteArray × β)} {k : ByteArray} : ∀ {j : Nat} {p : ByteArray × β}, l[j]? = some p → p.1 = k → (∀ i, i < j → ∀ q, l[i]? = some q → q.1 ≠ k) → ixOf l k = some j := by
  induction l with
  | nil => intro j p h; simp at h
  | cons x l ih =>
    intro j p h hp hf
    rw [ix_cons]
    cases j with
    | zero =>
      obtain rfl : x = p := by simpa using h
      rw [if_pos hp]
    | succ j =>
      rw [if_neg (hf 0 (by omega) x rfl), ih (j := j) (p := p) (by simpa using h) hp (fun i hi q hq => hf (i + 1) (by omega) q (by simpa using hq))]
      rfl

theorem ix_of_none {l : List (ByteArray × β)} {k : ByteArray} (h : ∀ (i : Nat) (q : ByteArray × β), l[i]? = some q → q.1 ≠ k) : ixOf l k = none := by
  induction l with
  | nil => rfl
  | cons x l ih =>
    rw [ix_cons, if_neg (h 0 x rfl), ih (fun i q hq => h (i + 1) q (by simpa using hq))]
    rfl

/-- Every key stands once. -/
def Uniq (l : List (ByteArray × β)) : Prop := ∀ (i : Nat) (p : ByteArray × β), l[i]? = some p → get l p.1 = some p.2

theorem keys_put (l : List (ByteArray × β)) (k : ByteArray) (v : β) : (put l k v).map (·.1) = if (get l k).isSome then l.map (·.1) else l.map (·.1) ++ [k] := by
  induction l with
  | nil => rfl
  | cons p l ih =>
    rw [put_cons, get_cons]
    by_cases h : p.1 = k
    · simp [h]
    · simp only [if_neg h, List.map_cons, ih]
      split <;> rfl

theorem get_none_iff (l : List (ByteArray × β)) (k : ByteArray) : get l k = none ↔ k ∉ l.map (·.1) := by
  induction l with
  | nil => simp [get_nil]
  | cons p l ih =>
    rw [get_cons]
    by_cases h : p.1 = k
    · simp [h]
    · simp only [if_neg h, ih, List.map_cons, List.mem_cons, not_or]
      exact ⟨fun h' => ⟨fun e => h e.symm, h'⟩, fun h' => h'.2⟩

theorem nodup_put {l : List (ByteArray × β)} (h : (l.map (·.1)).Nodup) (k : ByteArray) (v : β) : ((put l k v).map (·.1)).Nodup := by
  rw [keys_put]
  cases hg : get l k with
  | some x => simpa using h
  | none =>
    have := (get_none_iff l k).1 hg
    rw [if_neg (by simp)]
    rw [List.nodup_append]
    refine ⟨h, by simp, ?_⟩
    intro a ha b hb e
    rw [List.mem_singleton] at hb
    subst hb e
    exact this ha

theorem uniq_of_nodup {l : List (ByteArray × β)} (h : (l.map (·.1)).Nodup) : Uniq l := by
  induction l with
  | nil => intro i p hp; simp at hp
  | cons x l ih =>
    rw [List.map_cons, List.nodup_cons] at h
    intro i p hp
    rw [get_cons]
    cases i with
    | zero =>
      obtain rfl : x = p := by simpa using hp
      rw [if_pos rfl]
    | succ i =>
      have hp' : l[i]? = some p := by simpa using hp
      have hne : x.1 ≠ p.1 := fun e => h.1 (by rw [e]; exact List.mem_map.2 ⟨p, List.mem_of_getElem? hp', rfl⟩)
      rw [if_neg hne, ih h.2 i p hp']

theorem put_of_ix {l : List (ByteArray × β)} {k : ByteArray} {j : Nat} (h : ixOf l k = some j) (v : β) : put l k v = l.set j (k, v) := by unfold put; rw [h]
theorem put_of_none {l : List (ByteArray × β)} {k : ByteArray} (h : ixOf l k = none) (v : β) : put l k v = l ++ [(k, v)] := by unfold put; rw [h]
end

abbrev Pairs := List (ByteArray × Int)
abbrev Rws := List (ByteArray × Pairs)

/-- One pair more. -/
def step (R : Rws) (a b : ByteArray) (n : Int) : Rws := put R a (put ((get R a).getD []) b n)
/-- The model after i pairs. -/
def rowsTo (A B : Nat → ByteArray) (C : Nat → Int) : Nat → Rws
  | 0 => []
  | i + 1 => step (rowsTo A B C i) (A i) (B i) (C i)

/-- WHAT HOLDS OF THE MODEL: each key once, no row empty, every count positive. -/
structure Good (R : Rws) : Prop where
  keys : (R.map (·.1)).Nodup
  rows : ∀ a ps, get R a = some ps → (ps.map (·.1)).Nodup ∧ ps ≠ [] ∧ ∀ b n, get ps b = some n → 0 < n

theorem put_ne_nil {β : Type} (l : List (ByteArray × β)) (k : ByteArray) (v : β) : put l k v ≠ [] := by
  intro e
  have := get_put_same l k v
  rw [e] at this
  cases this

theorem good_step {R : Rws} (h : Good R) (a b : ByteArray) {n : Int} (hn : 0 < n) : Good (step R a b n) where
  keys := nodup_put h.keys _ _
  rows := by
    intro a' ps hps
    have h0 : (((get R a).getD []).map (·.1)).Nodup ∧ ∀ b n, get ((get R a).getD []) b = some n → 0 < n := by
      cases hg : get R a with
      | none => exact ⟨by simp, fun b n e => by cases e⟩
      | some ps0 => exact ⟨(h.rows a ps0 hg).1, (h.rows a ps0 hg).2.2⟩
    unfold step at hps
    by_cases e : a' = a
    · subst e
      rw [get_put_same] at hps
      cases hps
      refine ⟨nodup_put h0.1 _ _, put_ne_nil _ _ _, fun b' n' hb' => ?_⟩
      by_cases e' : b' = b
      · subst e'; rw [get_put_same] at hb'; cases hb'; exact hn
      · rw [get_put_other _ _ e'] at hb'; exact h0.2 b' n' hb'
    · rw [get_put_other _ _ e] at hps
      exact h.rows a' ps hps

theorem good_rowsTo {A B : Nat → ByteArray} {C : Nat → Int} : ∀ (n : Nat), (∀ i, i < n → 0 < C i) → Good (rowsTo A B C n)
  | 0, _ => ⟨by simp [rowsTo], fun a ps h => by cases h⟩
  | n + 1, h => good_step (good_rowsTo n (fun i hi => h i (by omega))) _ _ (h n (by omega))

theorem length_step (R : Rws) (a b : ByteArray) (n : Int) : (step R a b n).length ≤ R.length + 1 := by
  unfold step
  rw [length_put]
  split <;> omega

theorem length_rowsTo (A B : Nat → ByteArray) (C : Nat → Int) : ∀ n, (rowsTo A B C n).length ≤ n
  | 0 => Nat.le_refl _
  | n + 1 => Nat.le_trans (length_step _ _ _ _) (Nat.succ_le_succ (length_rowsTo A B C n))

/-- No row of the model is longer than the pairs taken. -/
theorem row_rowsTo (A B : Nat → ByteArray) (C : Nat → Int) : ∀ n a ps, get (rowsTo A B C n) a = some ps → ps.length ≤ n
  | 0, a, ps, h => by cases h
  | n + 1, a, ps, h => by
    rw [rowsTo, step] at h
    by_cases e : a = A n
    · subst e
      rw [get_put_same] at h
      cases h
      rw [length_put]
      have h0 : ((get (rowsTo A B C n) (A n)).getD []).length ≤ n := by
        cases hg : get (rowsTo A B C n) (A n) with
        | none => simp
        | some ps0 => exact row_rowsTo A B C n _ _ hg
      split <;> omega
    · rw [get_put_other _ _ e] at h
      exact Nat.le_succ_of_le (row_rowsTo A B C n a ps h)

end Go.Proofs.Qxb6601879a
