import Derived.Test.Qxb6601879aBuild
import Derived.Test.Qxb6601879aMapOf
import Derived.Test.Qxb6601879aMatch
/-! Adding and taking away again leaves the map as it was. -/
namespace Go.Proofs.Qxb6601879a
open Go.RowKit Go.Maps

/-- The row's pairs as the model has them: none where there is no row. -/
def pairsAt (R : Rws) (a : ByteArray) : Pairs := (get R a).getD []

theorem con_pairs (R : Rws) (a : ByteArray) : (conOf R a).getD (0, fun _ => none) = ((pairsAt R a).length, get (pairsAt R a)) := con_getD R a

theorem con_some {R : Rws} {a : ByteArray} (h : (get R a).isSome = true) : conOf R a = some ((pairsAt R a).length, get (pairsAt R a)) := by
  unfold conOf pairsAt
  cases hg : get R a with
  | none => rw [hg] at h; cases h
  | some ps => rfl

theorem con_none {R : Rws} {a : ByteArray} (h : get R a = none) : conOf R a = none := by unfold conOf; rw [h]; rfl

/-- The old count was there: taking n away again writes it back. -/
theorem undo_pos {w2 w3 w4 : World} {base m sz : Nat} {R : Rws} {a b : ByteArray} {n v : Int} {c1 c2 N' : Nat} (hv : (get (pairsAt R a) b).getD 0 = v) (hpos : 0 < v)
    (hc1 : (if (get (pairsAt R a) b).isSome then (pairsAt R a).length else (pairsAt R a).length + 1) = c1) (hsz : sz = R.length)
    (hc2 : (if (updF (get (pairsAt R a)) b (some (v + n)) b).isSome then c1 else c1 + 1) = c2)
    (h : Opened w3 base m N' (if (conOf R a).isSome then sz else sz + 1) (updF (conOf R) a (some (c1, updF (get (pairsAt R a)) b (some (v + n))))) a c2 (updF (updF (get (pairsAt R a)) b (some (v + n))) b (some (v + n + -n))) w4)
    (hK : Kept w2 w3 base) : ∃ inn, MR w4 base m N' inn R.length (conOf R) ∧ Kept w2 w4 base := by
  obtain ⟨inn, hM, hK4⟩ := h
  have hb : get (pairsAt R a) b = some v := by
    cases hg : get (pairsAt R a) b with
    | none => rw [hg] at hv; simp at hv; omega
    | some x => rw [hg] at hv; simp at hv; rw [hv]
  have ha : (get R a).isSome = true := by
    cases hg : get R a with
    | none => rw [pairsAt, hg] at hb; cases hb
    | some ps => rfl
  rw [hb, Option.isSome_some, if_pos rfl] at hc1
  subst hc1
  rw [updF_same, Option.isSome_some, if_pos rfl] at hc2
  subst hc2
  rw [updF_twice, updF_same, Option.isSome_some, if_pos rfl, con_isSome, ha, if_pos rfl, updF_twice, show v + n + -n = v by omega, updF_self _ b hb, updF_self _ a (con_some ha), hsz] at hM
  exact ⟨inn, hM, hK.trans hK4⟩

/-- It was not: the pair goes, and its key where it was the only one. -/
theorem undo_zero {w2 w3 w4 : World} {base m N' sz : Nat} {R : Rws} {a b : ByteArray} {n : Int} {c1 : Nat} (hb : get (pairsAt R a) b = none) (hne : ∀ ps, get R a = some ps → ps ≠ [])
    (hc1 : (if (get (pairsAt R a) b).isSome then (pairsAt R a).length else (pairsAt R a).length + 1) = c1) (hsz : sz = R.length)
    (h : Closed w3 base m N' (if (conOf R a).isSome then sz else sz + 1) (updF (conOf R) a (some (c1, updF (get (pairsAt R a)) b (some n)))) a (c1 - 1) (updF (updF (get (pairsAt R a)) b (some n)) b none) w4)
    (hK : Kept w2 w3 base) : ∃ inn, MR w4 base m N' inn R.length (conOf R) ∧ Kept w2 w4 base := by
  obtain ⟨inn, hM, hK4⟩ := h
  rw [hb, Option.isSome_none, if_neg (by simp)] at hc1
  subst hc1
  rw [Nat.add_sub_cancel, updF_twice, updF_twice, updF_self _ b hb, con_isSome] at hM
  refine ⟨inn, ?_, hK.trans hK4⟩
  cases hg : get R a with
  | none =>
    have hl : (pairsAt R a).length = 0 := by rw [pairsAt, hg]; rfl
    rw [hl, if_pos rfl, if_pos rfl, hg, updF_self _ a (con_none hg), hsz] at hM
    simpa using hM
  | some ps =>
    have hl : (pairsAt R a).length ≠ 0 := by
      rw [pairsAt, hg]
      have := hne ps hg
      intro e
      exact this (List.eq_nil_of_length_eq_zero e)
    rw [if_neg hl, if_neg hl, hg, updF_self _ a (con_some (by rw [hg]; rfl)), hsz] at hM
    simpa using hM

theorem mem_put {β : Type} {l : List (ByteArray × β)} {k : ByteArray} {v : β} {x : ByteArray × β} (h : x ∈ put l k v) : x ∈ l ∨ x = (k, v) := by
  induction l with
  | nil => rw [put_nil] at h; exact .inr (List.mem_singleton.1 h)
  | cons p l ih =>
    rw [put_cons] at h
    split at h
    · rcases List.mem_cons.1 h with h | h
      · exact .inr h
      · exact .inl (List.mem_cons_of_mem _ h)
    · rcases List.mem_cons.1 h with h | h
      · exact .inl (by rw [h]; exact List.mem_cons_self)
      · rcases ih h with h | h
        · exact .inl (List.mem_cons_of_mem _ h)
        · exact .inr h

theorem mem_of_get {β : Type} {l : List (ByteArray × β)} {k : ByteArray} {v : β} (h : get l k = some v) : (k, v) ∈ l := by
  unfold get at h
  obtain ⟨p, hp, rfl⟩ := Option.map_eq_some_iff.1 h
  have h1 := List.find?_some hp
  have h2 := List.mem_of_find?_eq_some hp
  have : p.1 = k := by simpa using h1
  rw [← this]; exact h2

theorem sized_rowsTo {A B : Nat → ByteArray} {C : Nat → Int} : ∀ (n : Nat), (∀ i, i < n → (A i).size ≤ maxLen) → (∀ i, i < n → (B i).size ≤ maxLen) → ∀ x ∈ rowsTo A B C n, x.1.size ≤ maxLen ∧ ∀ p ∈ x.2, p.1.size ≤ maxLen
  | 0, _, _, x, hx => by cases hx
  | n + 1, hA, hB, x, hx => by
    have ih := sized_rowsTo (C := C) n (fun i hi => hA i (by omega)) (fun i hi => hB i (by omega))
    rw [rowsTo, step] at hx
    rcases mem_put hx with h | h
    · exact ih x h
    · rw [h]
      refine ⟨hA n (by omega), fun p hp => ?_⟩
      rcases mem_put hp with h | h
      · cases hg : get (rowsTo A B C n) (A n) with
        | none => rw [hg] at h; cases h
        | some ps => rw [hg] at h; exact (ih _ (mem_of_get hg)).2 p h
      · rw [h]; exact hB n (by omega)

theorem mem_rowsOf {Q : List (ByteArray × Pairs × Value)} {q : ByteArray × Pairs × Value} (h : q ∈ Q) : (q.1, q.2.1) ∈ rowsOf Q := List.mem_map.2 ⟨q, h, rfl⟩

end Go.Proofs.Qxb6601879a
