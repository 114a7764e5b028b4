import Derived.Test.Qxb6601800aMaps
/-! The group in memory: ten cells, the maps that they lead to, the list of its buckets. -/
namespace Go.Proofs.Qxb6601800a
open Go.RowKit Go.Maps

/-- WHERE A KEY LIES: (q, empty) for a kind q below 4, (4, name) for kind 4; and the string at which it is looked up there. -/
abbrev Key := (Nat × ByteArray) × ByteArray
def keyFor (q : Nat) (nm vl : ByteArray) : Key := if q = 4 then ((4, nm), vl) else ((q, ByteArray.empty), nm)

def ptr (b : Nat) : Value := .pointer (some ⟨b, 0, none⟩)

/-- The bucket of a key, among those made so far. -/
def have? (L : List (Key × Nat)) (k : Key) : Option Nat := (L.find? fun p => decide (p.1 = k)).map (·.2)
def want (L : List (Key × Nat)) (k : Key) : Value := match have? L k with | some b => ptr b | none => .pointer none

theorem have_none {L : List (Key × Nat)} {k : Key} (h : ∀ p ∈ L, p.1 ≠ k) : have? L k = none := by
  unfold have?
  rw [List.find?_eq_none.2 (fun p hp => by simpa using h p hp)]; rfl
theorem have_snoc_same {L : List (Key × Nat)} {k : Key} (b : Nat) (h : have? L k = none) : have? (L ++ [(k, b)]) k = some b := by
  unfold have? at h ⊢
  rw [List.find?_append, Option.map_eq_none_iff.1 h]; simp
theorem have_snoc_other {L : List (Key × Nat)} {k k' : Key} (b : Nat) (h : k' ≠ k) : have? (L ++ [(k, b)]) k' = have? L k' := by
  unfold have?
  rw [List.find?_append]
  simp [Ne.symm h]
theorem have_mem {L : List (Key × Nat)} {k : Key} {b : Nat} (h : have? L k = some b) : (k, b) ∈ L := by
  unfold have? at h
  obtain ⟨p, hp, rfl⟩ := Option.map_eq_some_iff.1 h
  have h1 := List.find?_some hp
  have h2 := List.mem_of_find?_eq_some hp
  have : p.1 = k := by simpa using h1
  rw [← this]; exact h2

theorem want_none {L : List (Key × Nat)} {k : Key} (h : have? L k = none) : want L k = .pointer none := by unfold want; rw [h]
theorem want_some {L : List (Key × Nat)} {k : Key} {b : Nat} (h : have? L k = some b) : want L k = ptr b := by unfold want; rw [h]

/-- THE GROUP. L: what its maps hold; M: the blocks of its list of buckets; cs: its ten cells; role: which block is which map of pointers; bv: the slice of its buckets; N: no map has more entries. -/
structure Grp (w : World) (base g N : Nat) (L : List (Key × Nat)) (M : List Nat) (cs : Array Value) (role : Nat → Option (Nat × ByteArray)) (bv : Value) : Prop where
  hg : w.heap[g]? = some (.cells cs 48 (0, 0))
  base_g : base ≤ g
  len : cs.size = 10
  plain : ∀ q, q < 4 → ∃ r, cs[q + 2]? = some (.map r) ∧ ∀ b, r = some b ↔ role b = some (q, ByteArray.empty)
  vals : ∃ r, cs[6]? = some (.map r) ∧ (r = none → ∀ b nm, role b ≠ some (4, nm)) ∧
    ∀ v, r = some v → base ≤ v ∧ role v = none ∧ ∃ F, MapF w v N (.map none) F ∧ ∀ nm, ∃ x, F nm = .map x ∧ ∀ b, x = some b ↔ role b = some (4, nm)
  bk : cs[9]? = some bv
  row : w.ownsRow base 33 1 bv M.length (M.map ptr)
  maps : ∀ b ρ, role b = some ρ → base ≤ b ∧ MapF w b N (.pointer none) (fun s => want L (ρ, s))
  roles : ∀ p ∈ L, ∃ b, role b = some p.1.1
  one : ∀ {b c : Nat} {ρ : Nat × ByteArray}, role c = some ρ → role b = some ρ → c = b
  bks : ∀ p ∈ L, ∃ c, w.heap[p.2]? = some (.cells c 72 (0, 0))

/-- A block that the group may turn. -/
def Mine (w : World) (base g : Nat) (bv : Value) (i : Nat) : Prop := base ≤ i ∧ (i = g ∨ some i = bv.ownBlock ∨ ∃ es c, w.heap[i]? = some (.map es c))

/-- w' is w but for what the group may turn, and for new blocks. -/
structure Turned (w w' : World) (base g : Nat) (bv : Value) : Prop where
  os : w'.os = w.os
  tape : w'.tape = w.tape
  output : w'.output = w.output
  size : w.heap.size ≤ w'.heap.size
  block : ∀ i, i < w.heap.size → ¬ Mine w base g bv i → w'.heap[i]? = w.heap[i]?

section turned
variable {w w1 w2 : World} {base g : Nat} {bv bv1 : Value}
theorem Turned.refl (w : World) (base g : Nat) (bv : Value) : Turned w w base g bv := ⟨rfl, rfl, rfl, Nat.le_refl _, fun _ _ _ => rfl⟩
theorem Turned.trans (h : Turned w w1 base g bv) (h' : Turned w1 w2 base g bv1) (hv : ∀ k, bv1.ownBlock = some k → bv.ownBlock = some k ∨ w.heap.size ≤ k) : Turned w w2 base g bv where
  os := h'.os.trans h.os
  tape := h'.tape.trans h.tape
  output := h'.output.trans h.output
  size := Nat.le_trans h.size h'.size
  block i hi hn := by
    have e := h.block i hi hn
    refine (h'.block i (Nat.lt_of_lt_of_le hi h.size) ?_).trans e
    rintro ⟨hb, hm⟩
    refine hn ⟨hb, ?_⟩
    rcases hm with hm | hm | ⟨es, c, hm⟩
    · exact .inl hm
    · rcases hv i hm.symm with h1 | h1
      · exact .inr (.inl h1.symm)
      · omega
    · exact .inr (.inr ⟨es, c, by rw [← e]; exact hm⟩)
theorem Turned.after (h : Turned w w1 base g bv) (h' : Turned w1 w2 base g bv) : Turned w w2 base g bv := h.trans h' (fun _ hk => .inl hk)
theorem Turned.alloc (h : Turned w w1 base g bv) (o : Obj) : Turned w (w1.alloc o) base g bv :=
  h.after ⟨rfl, rfl, rfl, by simp, fun i hi _ => Below.heap_alloc _ _ _ hi⟩
theorem Turned.drew (h : Turned w w1 base g bv) : Turned w w1.drew base g bv := ⟨h.os, h.tape, h.output, h.size, h.block⟩
theorem Turned.setCell (h : Turned w w1 base g bv) (hb : base ≤ g) (j : Nat) (v : Value) : Turned w (w1.setCell ⟨g, j, none⟩ v) base g bv :=
  h.after ⟨rfl, rfl, rfl, by simp [World.setCell], fun i _ hn => Below.heap_setCell _ _ _ _ (fun e => hn ⟨by rw [e]; exact hb, .inl e⟩)⟩
theorem Turned.map (h : Turned w w1 base g bv) {b : Nat} (hm : w1.mapTurned w2 b) (hb : base ≤ b) : Turned w w2 base g bv := by
  have hg := hm.grown
  obtain ⟨es, c, es', c', h1, h2⟩ := hm
  exact h.after ⟨hg.os, hg.tape, hg.output, hg.size, fun i hi hn => hg.block i hi (fun e => hn (by cases e; exact ⟨hb, .inr (.inr ⟨es, c, h1⟩)⟩))⟩
theorem Turned.append (h : Turned w w1 base g bv) (hg : w1.grownBy w2 bv.ownBlock) (hb : ∀ k, bv.ownBlock = some k → base ≤ k) : Turned w w2 base g bv :=
  h.after ⟨hg.os, hg.tape, hg.output, hg.size, fun i hi hn => hg.block i hi (fun e => hn ⟨hb i e.symm, .inr (.inl e)⟩)⟩
end turned

section
variable {w w' : World} {base g N : Nat} {L : List (Key × Nat)} {M : List Nat} {cs : Array Value} {role : Nat → Option (Nat × ByteArray)} {bv : Value}

theorem row_same {e : TypeId} {size : Nat} {v : Value} {n : Nat} {xs : List Value} (h : w.ownsRow base e size v n xs) (hb : ∀ k, v.ownBlock = some k → w'.heap[k]? = w.heap[k]?) : w'.ownsRow base e size v n xs := by
  obtain ⟨h1, h2⟩ := h
  refine ⟨h1, ?_⟩
  rcases h2 with h2 | ⟨k, cap, cur, rfl, hk, hh, r⟩
  · exact .inl h2
  · exact .inr ⟨k, cap, cur, rfl, hk, (hb k rfl).trans hh, r⟩

/-- An owned row's block holds cells of its type. -/
theorem row_block {e : TypeId} {size : Nat} {v : Value} {n : Nat} {xs : List Value} (h : w.ownsRow base e size v n xs) {k : Nat} (hk : v.ownBlock = some k) : ∃ cur, w.heap[k]? = some (.cells cur e (0, 0)) := by
  obtain ⟨_, h2⟩ := h
  rcases h2 with ⟨rfl, _⟩ | ⟨k', cap, cur, rfl, _, hh, _⟩
  · simp [Value.ownBlock] at hk
  · simp [Value.ownBlock] at hk; subst hk; exact ⟨cur, hh⟩

/-- THE GROUP BEHIND A STEP, told by what became of its blocks. -/
theorem Grp.step (h : Grp w base g N L M cs role bv) {cs' : Array Value} {role' : Nat → Option (Nat × ByteArray)}
    (h72 : ∀ (m : Nat) (c : Array Value), w.heap[m]? = some (.cells c 72 (0, 0)) → w'.heap[m]? = w.heap[m]?) (hg : w'.heap[g]? = some (.cells cs' 48 (0, 0))) (hl : cs'.size = 10) (h9 : cs'[9]? = cs[9]?)
    (hrow : ∀ k, bv.ownBlock = some k → w'.heap[k]? = w.heap[k]?)
    (hplain : ∀ q, q < 4 → ∃ r, cs'[q + 2]? = some (.map r) ∧ ∀ b, r = some b ↔ role' b = some (q, ByteArray.empty))
    (hvals : ∃ r, cs'[6]? = some (.map r) ∧ (r = none → ∀ b nm, role' b ≠ some (4, nm)) ∧
      ∀ v, r = some v → base ≤ v ∧ role' v = none ∧ ∃ F, MapF w' v N (.map none) F ∧ ∀ nm, ∃ x, F nm = .map x ∧ ∀ b, x = some b ↔ role' b = some (4, nm))
    (hmaps : ∀ b ρ, role' b = some ρ → base ≤ b ∧ MapF w' b N (.pointer none) (fun s => want L (ρ, s)))
    (hroles : ∀ b ρ, role b = some ρ → role' b = some ρ) (hone : ∀ {b c : Nat} {ρ : Nat × ByteArray}, role' c = some ρ → role' b = some ρ → c = b) : Grp w' base g N L M cs' role' bv where
  hg := hg
  base_g := h.base_g
  len := hl
  plain := hplain
  vals := hvals
  bk := h9.trans h.bk
  row := row_same h.row hrow
  maps := hmaps
  roles p hp := by obtain ⟨b, hb⟩ := h.roles p hp; exact ⟨b, hroles b _ hb⟩
  one := hone
  bks p hp := by obtain ⟨c, hc⟩ := h.bks p hp; exact ⟨c, (h72 _ c hc).trans hc⟩

/-- The group stays what it is where the old blocks do. -/
theorem Grp.same (h : Grp w base g N L M cs role bv) (hb : ∀ i, i < w.heap.size → w'.heap[i]? = w.heap[i]?) : Grp w' base g N L M cs role bv := by
  refine h.step (fun m c hm => hb m (Array.getElem?_eq_some_iff.1 hm).1) ((hb g (Array.getElem?_eq_some_iff.1 h.hg).1).trans h.hg) h.len rfl
    (fun k hk => hb k (h.row.lt k hk).2) h.plain ?_ ?_ (fun _ _ e => e) h.one
  · obtain ⟨r, h1, h2, h3⟩ := h.vals
    refine ⟨r, h1, h2, fun v hr => ?_⟩
    obtain ⟨h4, h5, F, h6, h7⟩ := h3 v hr
    exact ⟨h4, h5, F, h6.same (hb v h6.lt), h7⟩
  · intro b ρ hr
    obtain ⟨h1, h2⟩ := h.maps b ρ hr
    exact ⟨h1, h2.same (hb b h2.lt)⟩

theorem Grp.alloc (h : Grp w base g N L M cs role bv) (o : Obj) : Grp (w.alloc o) base g N L M cs role bv :=
  h.same (fun i hi => Below.heap_alloc w o i hi)

theorem Grp.drew (h : Grp w base g N L M cs role bv) : Grp w.drew base g N L M cs role bv := h.same (fun _ _ => rfl)

theorem Grp.mono (h : Grp w base g N L M cs role bv) {N' : Nat} (hN : N ≤ N') : Grp w base g N' L M cs role bv where
  hg := h.hg
  base_g := h.base_g
  len := h.len
  plain := h.plain
  vals := by
    obtain ⟨r, h1, h2, h3⟩ := h.vals
    refine ⟨r, h1, h2, fun b hr => ?_⟩
    obtain ⟨h4, h5, F, h6, h7⟩ := h3 b hr
    exact ⟨h4, h5, F, h6.mono hN, h7⟩
  bk := h.bk
  row := h.row
  maps b ρ hr := ⟨(h.maps b ρ hr).1, (h.maps b ρ hr).2.mono hN⟩
  roles := h.roles
  one := h.one
  bks := h.bks

theorem Grp.glt (h : Grp w base g N L M cs role bv) : g < w.heap.size := (Array.getElem?_eq_some_iff.1 h.hg).1

theorem Grp.cell (h : Grp w base g N L M cs role bv) {j : Nat} {v : Value} (hv : cs[j]? = some v) : w.cell? ⟨g, j, none⟩ = some v := by
  rw [cell_of_row w g j _ _ _ h.hg]; exact hv

theorem Grp.live (h : Grp w base g N L M cs role bv) (j : Nat) : w.frozen? ⟨g, j, none⟩ = false := by
  simp [World.frozen?, h.hg]

theorem Grp.g_row (h : Grp w base g N L M cs role bv) : bv.ownBlock ≠ some g := by
  intro e
  obtain ⟨cur, hc⟩ := row_block h.row e
  rw [h.hg] at hc
  cases hc

theorem Grp.g_map (h : Grp w base g N L M cs role bv) {b : Nat} {es : Array MapEntry} {c : Nat} (hb : w.heap[b]? = some (.map es c)) : b ≠ g := by
  rintro rfl
  rw [h.hg] at hb
  cases hb

theorem Grp.g_72 (h : Grp w base g N L M cs role bv) {m : Nat} {c : Array Value} (hm : w.heap[m]? = some (.cells c 72 (0, 0))) : m ≠ g := by
  rintro rfl
  rw [h.hg] at hm
  cases hm

theorem Grp.row_72 (h : Grp w base g N L M cs role bv) {m : Nat} {c : Array Value} (hm : w.heap[m]? = some (.cells c 72 (0, 0))) : bv.ownBlock ≠ some m := by
  intro e
  obtain ⟨cur, hc⟩ := row_block h.row e
  rw [hm] at hc
  cases hc

theorem Grp.row_map (h : Grp w base g N L M cs role bv) {b : Nat} {es : Array MapEntry} {c : Nat} (hb : w.heap[b]? = some (.map es c)) : bv.ownBlock ≠ some b := by
  intro e
  obtain ⟨cur, hc⟩ := row_block h.row e
  rw [hb] at hc
  cases hc

/-- A CELL OF THE GROUP WRITTEN AS IT WAS. -/
theorem Grp.rewrite (h : Grp w base g N L M cs role bv) {j : Nat} {v : Value} (hv : cs[j]? = some v) : Grp (w.setCell ⟨g, j, none⟩ v) base g N L M cs role bv := by
  have e : cs.setIfInBounds j v = cs := by
    apply Array.ext_getElem?
    intro i
    rw [Array.getElem?_setIfInBounds]
    split
    · rename_i hij; subst hij; rw [hv]; simp [(Array.getElem?_eq_some_iff.1 hv).1]
    · rfl
  refine h.same (fun i _ => ?_)
  by_cases hi : i = g
  · subst hi
    rw [heap_setCell_same w i j cs 48 v h.hg, e, h.hg]
  · exact Below.heap_setCell _ _ _ _ hi

theorem one_add (h : ∀ {b c : Nat} {ρ : Nat × ByteArray}, role c = some ρ → role b = some ρ → c = b) {ρ0 : Nat × ByteArray} (hno : ∀ i, role i ≠ some ρ0) {b0 : Nat} {b c : Nat} {ρ : Nat × ByteArray}
    (hc : (if c = b0 then some ρ0 else role c) = some ρ) (hb : (if b = b0 then some ρ0 else role b) = some ρ) : c = b := by
  by_cases h1 : c = b0 <;> by_cases h2 : b = b0
  · rw [h1, h2]
  · rw [if_pos h1] at hc; rw [if_neg h2] at hb; cases hc; exact absurd hb (hno b)
  · rw [if_neg h1] at hc; rw [if_pos h2] at hb; cases hb; exact absurd hc (hno c)
  · rw [if_neg h1] at hc; rw [if_neg h2] at hb; exact h hc hb

/-- A NEW MAP OF POINTERS FOR KIND q. -/
theorem Grp.newMap (h : Grp w base g N L M cs role bv) {q : Nat} (hq : q < 4) (hr : cs[q + 2]? = some (.map none)) {b : Nat} (hnew : w.heap.size ≤ b) (hbs : base ≤ b)
    (hg : w'.heap[g]? = some (.cells (cs.setIfInBounds (q + 2) (.map (some b))) 48 (0, 0)))
    (hb : w'.heap[b]? = some (.map #[] 0)) (hrest : ∀ i, i < w.heap.size → i ≠ g → w'.heap[i]? = w.heap[i]?) :
    Grp w' base g N L M (cs.setIfInBounds (q + 2) (.map (some b))) (fun i => if i = b then some (q, ByteArray.empty) else role i) bv := by
  have fresh : ∀ i ρ, role i = some ρ → i ≠ b := fun i ρ hi e => by have := (h.maps i ρ hi).2.lt; omega
  have hno : ∀ i, role i ≠ some (q, ByteArray.empty) := by
    obtain ⟨r, h1, h2⟩ := h.plain q hq
    rw [hr] at h1
    cases h1
    intro i hi
    have := (h2 i).2 hi
    cases this
  refine h.step (fun m c hm => hrest m (Array.getElem?_eq_some_iff.1 hm).1 (h.g_72 hm)) hg (by simp [h.len]) (by rw [Array.getElem?_setIfInBounds, if_neg (by omega)]) ?_ ?_ ?_ ?_ ?_ (one_add h.one hno)
  · exact fun k hk => hrest k (h.row.lt k hk).2 (fun e => h.g_row (by rw [hk, e]))
  · intro q' hq'
    by_cases e : q' = q
    · subst e
      refine ⟨some b, by rw [Array.getElem?_setIfInBounds, if_pos rfl, if_pos (by rw [h.len]; omega)], fun b' => ⟨fun e => by cases e; simp, fun e => ?_⟩⟩
      by_cases hb' : b' = b
      · rw [hb']
      · rw [if_neg hb'] at e; exact absurd e (hno b')
    · obtain ⟨r, h1, h2⟩ := h.plain q' hq'
      refine ⟨r, by rw [Array.getElem?_setIfInBounds, if_neg (by omega)]; exact h1, fun b' => ?_⟩
      rw [h2 b']
      by_cases hb' : b' = b
      · subst hb'
        rw [if_pos rfl]
        constructor
        · intro e'; exact absurd rfl (fresh _ _ e')
        · intro e'; cases e'; exact absurd rfl e
      · rw [if_neg hb']
  · obtain ⟨r, h1, h2, h3⟩ := h.vals
    refine ⟨r, by rw [Array.getElem?_setIfInBounds, if_neg (by omega)]; exact h1, fun hr' b' nm e => ?_, fun v hv => ?_⟩
    · by_cases hb' : b' = b
      · rw [if_pos hb'] at e; cases e; omega
      · rw [if_neg hb'] at e; exact h2 hr' b' nm e
    · obtain ⟨h4, h5, F, h6, h7⟩ := h3 v hv
      have hvb : v ≠ b := fun e => by have := h6.lt; omega
      refine ⟨h4, by rw [if_neg hvb]; exact h5, F, h6.same ?_, fun nm => ?_⟩
      · obtain ⟨es, c, hm⟩ := h6.isMap
        exact hrest v h6.lt (h.g_map hm)
      · obtain ⟨x, h8, h9⟩ := h7 nm
        refine ⟨x, h8, fun b' => ?_⟩
        rw [h9 b']
        by_cases hb' : b' = b
        · subst hb'
          rw [if_pos rfl]
          constructor
          · intro e'; exact absurd rfl (fresh _ _ e')
          · intro e'; cases e'; omega
        · rw [if_neg hb']
  · intro b' ρ hb'
    by_cases e : b' = b
    · subst e
      rw [if_pos rfl] at hb'
      cases hb'
      refine ⟨hbs, (?_ : MapF w' b' N (.pointer none) _)⟩
      have hm : MapF w' b' 0 (.pointer none) (fun _ => .pointer none) := ⟨.map [], ⟨#[], 0, hb, ⟨by simp, MapKept.stamped_empty 0, by simp⟩, Nat.le_refl _, rfl⟩, fun _ => rfl⟩
      refine (hm.mono (Nat.zero_le _)).ext (fun s => (want_none (have_none ?_)).symm)
      intro p hp e'
      obtain ⟨i, hi⟩ := h.roles p hp
      rw [e'] at hi
      exact hno i hi
    · rw [if_neg e] at hb'
      obtain ⟨h1, h2⟩ := h.maps b' ρ hb'
      refine ⟨h1, h2.same ?_⟩
      obtain ⟨es, c, hm⟩ := h2.isMap
      exact hrest b' h2.lt (h.g_map hm)
  · intro b' ρ hb'
    show (if b' = b then _ else _) = _
    rw [if_neg (fresh b' ρ hb')]
    exact hb'

theorem map_empty (z : Value) {b : Nat} (hb : w.heap[b]? = some (.map #[] 0)) : MapF w b N z (fun _ => z) := by
  have hm : MapF w b 0 z (fun _ => z) := ⟨.map [], ⟨#[], 0, hb, ⟨by simp, MapKept.stamped_empty 0, by simp⟩, Nat.le_refl _, rfl⟩, fun _ => rfl⟩
  exact hm.mono (Nat.zero_le _)

/-- A NEW MAP OF MAPS. -/
theorem Grp.newVals (h : Grp w base g N L M cs role bv) (hr : cs[6]? = some (.map none)) {v : Nat} (hnew : w.heap.size ≤ v) (hbs : base ≤ v)
    (hg : w'.heap[g]? = some (.cells (cs.setIfInBounds 6 (.map (some v))) 48 (0, 0)))
    (hb : w'.heap[v]? = some (.map #[] 0)) (hrest : ∀ i, i < w.heap.size → i ≠ g → w'.heap[i]? = w.heap[i]?) :
    Grp w' base g N L M (cs.setIfInBounds 6 (.map (some v))) role bv := by
  have fresh : ∀ i ρ, role i = some ρ → i ≠ v := fun i ρ hi e => by have := (h.maps i ρ hi).2.lt; omega
  have hno : ∀ b nm, role b ≠ some (4, nm) := by
    obtain ⟨r, h1, h2, _⟩ := h.vals
    rw [hr] at h1
    cases h1
    exact h2 rfl
  refine h.step (fun m c hm => hrest m (Array.getElem?_eq_some_iff.1 hm).1 (h.g_72 hm)) hg (by simp [h.len]) (by rw [Array.getElem?_setIfInBounds, if_neg (by omega)]) ?_ ?_ ?_ ?_ (fun _ _ e => e) h.one
  · exact fun k hk => hrest k (h.row.lt k hk).2 (fun e => h.g_row (by rw [hk, e]))
  · intro q' hq'
    obtain ⟨r, h1, h2⟩ := h.plain q' hq'
    exact ⟨r, by rw [Array.getElem?_setIfInBounds, if_neg (by omega)]; exact h1, h2⟩
  · refine ⟨some v, by rw [Array.getElem?_setIfInBounds, if_pos rfl, if_pos (by rw [h.len]; omega)], (fun e => by cases e), fun v' hv => ?_⟩
    cases hv
    refine ⟨hbs, ?_, fun _ => .map none, map_empty _ hb, fun nm => ⟨none, rfl, fun b => ⟨(fun e => by cases e), fun e => absurd e (hno b nm)⟩⟩⟩
    cases hv : role v with
    | none => rfl
    | some ρ => exact absurd rfl (fresh v ρ hv)
  · intro b' ρ hb'
    obtain ⟨h1, h2⟩ := h.maps b' ρ hb'
    refine ⟨h1, h2.same ?_⟩
    obtain ⟨es, c, hm⟩ := h2.isMap
    exact hrest b' h2.lt (h.g_map hm)

theorem Grp.look43 (h : Grp w base g N L M cs role bv) {b : Nat} {ρ : Nat × ByteArray} (hb : role b = some ρ) {s : ByteArray} (hs : s.size ≤ maxLen) :
    (Instr.lookup 43 (.map (some b)) (.string s) false).run Try.prog w = .ok (want L (ρ, s)) w :=
  (h.maps b ρ hb).2.look Try.underlying43 (zero33 w) hs

theorem Grp.look44 (h : Grp w base g N L M cs role bv) {v : Nat} (hv : cs[6]? = some (.map (some v))) {nm : ByteArray} (hs : nm.size ≤ maxLen) :
    ∃ x, (Instr.lookup 44 (.map (some v)) (.string nm) false).run Try.prog w = .ok (.map x) w ∧ ∀ b, x = some b ↔ role b = some (4, nm) := by
  obtain ⟨r, h1, _, h3⟩ := h.vals
  rw [hv] at h1
  cases h1
  obtain ⟨_, _, F, h6, h7⟩ := h3 v rfl
  obtain ⟨x, h8, h9⟩ := h7 nm
  refine ⟨x, ?_, h9⟩
  rw [← h8]
  exact h6.look Try.underlying44 (zero43 w) hs

theorem turned_other {b i : Nat} (hm : w.mapTurned w' b) (hi : i < w.heap.size) (hne : i ≠ b) : w'.heap[i]? = w.heap[i]? :=
  hm.grown.block i hi (fun e => hne (by cases e; rfl))

theorem turned_is {b : Nat} (hm : w.mapTurned w' b) : ∃ es c, w.heap[b]? = some (.map es c) := by
  obtain ⟨es, c, _, _, h, _⟩ := hm; exact ⟨es, c, h⟩

/-- THE STORE OF AN INNER MAP UNDER ITS NAME: a new one. -/
theorem Grp.storeNew (h : Grp w base g N L M cs role bv) {v : Nat} (hv : cs[6]? = some (.map (some v))) {nm : ByteArray} (hs : nm.size ≤ maxLen) (hN : N < maxLen)
    (hno : ∀ b, role b ≠ some (4, nm)) {b : Nat} (hb : w.heap[b]? = some (.map #[] 0)) (hbs : base ≤ b) (hrb : role b = none) (hvb : v ≠ b) :
    ∃ w', (Instr.mapUpdate 44 (.map (some v)) (.string nm) (.map (some b))).run Try.prog w = .ok () w' ∧
      Grp w' base g (N + 1) L M cs (fun i => if i = b then some (4, nm) else role i) bv ∧ w.mapTurned w' v := by
  obtain ⟨r, h1, h2, h3⟩ := h.vals
  rw [hv] at h1
  cases h1
  obtain ⟨h4, h5, F, h6, h7⟩ := h3 v rfl
  obtain ⟨w', hrun, hF', hm⟩ := h6.store Try.underlying44 hN hs (.map (some b))
  obtain ⟨esv, cv, hmv⟩ := h6.isMap
  have fresh : ∀ i ρ, role i = some ρ → i ≠ b := fun i ρ hi e => by rw [e, hrb] at hi; cases hi
  refine ⟨w', hrun, ?_, hm⟩
  have hlt : b < w.heap.size := (Array.getElem?_eq_some_iff.1 hb).1
  refine (h.mono (Nat.le_succ N)).step (fun m c h72 => turned_other hm (Array.getElem?_eq_some_iff.1 h72).1 (fun e => by rw [e, hmv] at h72; cases h72)) ((turned_other hm h.glt (h.g_map hmv).symm).trans h.hg) h.len rfl ?_ ?_ ?_ ?_ ?_ (one_add h.one hno)
  · exact fun k hk => turned_other hm (h.row.lt k hk).2 (fun e => h.row_map hmv (by rw [hk, e]))
  · intro q hq
    obtain ⟨r, h8, h9⟩ := h.plain q hq
    refine ⟨r, h8, fun b' => ?_⟩
    rw [h9 b']
    by_cases hb' : b' = b
    · subst hb'
      rw [if_pos rfl, hrb]
      constructor
      · intro e; cases e
      · intro e; cases e; omega
    · rw [if_neg hb']
  · refine ⟨some v, hv, (fun e => by cases e), fun v' hv' => ?_⟩
    cases hv'
    refine ⟨h4, by rw [if_neg hvb]; exact h5, _, hF', fun nm' => ?_⟩
    by_cases e : nm' = nm
    · subst e
      refine ⟨some b, by simp [upd], fun b' => ⟨fun e' => by cases e'; simp, fun e' => ?_⟩⟩
      by_cases hb' : b' = b
      · rw [hb']
      · rw [if_neg hb'] at e'; exact absurd e' (hno b')
    · obtain ⟨x, h8, h9⟩ := h7 nm'
      refine ⟨x, by simp [upd, e, h8], fun b' => ?_⟩
      rw [h9 b']
      by_cases hb' : b' = b
      · subst hb'
        rw [if_pos rfl, hrb]
        constructor
        · intro e; cases e
        · intro e'; cases e'; exact absurd rfl e
      · rw [if_neg hb']
  · intro b' ρ hb'
    by_cases e : b' = b
    · subst e
      rw [if_pos rfl] at hb'
      cases hb'
      refine ⟨hbs, ((map_empty (.pointer none) hb).same (turned_other hm hlt hvb.symm)).ext (fun s => (want_none (have_none ?_)).symm)⟩
      intro p hp e'
      obtain ⟨i, hi⟩ := h.roles p hp
      rw [e'] at hi
      exact hno i hi
    · rw [if_neg e] at hb'
      obtain ⟨h1, h2⟩ := h.maps b' ρ hb'
      exact ⟨h1, (h2.mono (Nat.le_succ N)).same (turned_other hm h2.lt (fun e' => by rw [e', h5] at hb'; cases hb'))⟩
  · intro b' ρ hb'
    show (if b' = b then _ else _) = _
    rw [if_neg (fresh b' ρ hb')]
    exact hb'

/-- .. the one that is there already. -/
theorem Grp.storeOld (h : Grp w base g N L M cs role bv) {v : Nat} (hv : cs[6]? = some (.map (some v))) {nm : ByteArray} (hs : nm.size ≤ maxLen) (hN : N < maxLen)
    {b : Nat} (hb : role b = some (4, nm)) :
    ∃ w', (Instr.mapUpdate 44 (.map (some v)) (.string nm) (.map (some b))).run Try.prog w = .ok () w' ∧
      Grp w' base g (N + 1) L M cs role bv ∧ w.mapTurned w' v := by
  obtain ⟨r, h1, h2, h3⟩ := h.vals
  rw [hv] at h1
  cases h1
  obtain ⟨h4, h5, F, h6, h7⟩ := h3 v rfl
  obtain ⟨w', hrun, hF', hm⟩ := h6.store Try.underlying44 hN hs (.map (some b))
  obtain ⟨esv, cv, hmv⟩ := h6.isMap
  refine ⟨w', hrun, ?_, hm⟩
  refine (h.mono (Nat.le_succ N)).step (fun m c h72 => turned_other hm (Array.getElem?_eq_some_iff.1 h72).1 (fun e => by rw [e, hmv] at h72; cases h72)) ((turned_other hm h.glt (h.g_map hmv).symm).trans h.hg) h.len rfl ?_ h.plain ?_ ?_ (fun _ _ e => e) h.one
  · exact fun k hk => turned_other hm (h.row.lt k hk).2 (fun e => h.row_map hmv (by rw [hk, e]))
  · refine ⟨some v, hv, (fun e => by cases e), fun v' hv' => ?_⟩
    cases hv'
    refine ⟨h4, h5, _, hF', fun nm' => ?_⟩
    obtain ⟨x, h8, h9⟩ := h7 nm'
    by_cases e : nm' = nm
    · subst e
      obtain rfl := (h9 b).2 hb
      exact ⟨some b, by simp [upd], h9⟩
    · exact ⟨x, by simp [upd, e, h8], h9⟩
  · intro b' ρ hb'
    obtain ⟨h1, h2⟩ := h.maps b' ρ hb'
    exact ⟨h1, (h2.mono (Nat.le_succ N)).same (turned_other hm h2.lt (fun e' => by rw [e', h5] at hb'; cases hb'))⟩

/-- THE STORE OF A NEW BUCKET. -/
theorem Grp.store43 (h : Grp w base g N L M cs role bv) {b : Nat} {ρ : Nat × ByteArray} (hb : role b = some ρ) {s : ByteArray} (hs : s.size ≤ maxLen) (hN : N < maxLen) (hnew : have? L (ρ, s) = none) {nb : Nat} (hnb : ∃ c, w.heap[nb]? = some (.cells c 72 (0, 0))) :
    ∃ w', (Instr.mapUpdate 43 (.map (some b)) (.string s) (ptr nb)).run Try.prog w = .ok () w' ∧
      Grp w' base g (N + 1) (L ++ [((ρ, s), nb)]) M cs role bv ∧ w.mapTurned w' b := by
  obtain ⟨hbs, h6⟩ := h.maps b ρ hb
  obtain ⟨w', hrun, hF', hm⟩ := h6.store Try.underlying43 hN hs (ptr nb)
  obtain ⟨esv, cv, hmv⟩ := h6.isMap
  refine ⟨w', hrun, ?_, hm⟩
  exact {
    hg := (turned_other hm h.glt (h.g_map hmv).symm).trans h.hg
    base_g := h.base_g
    len := h.len
    plain := h.plain
    vals := by
      obtain ⟨r, h1, h2, h3⟩ := h.vals
      refine ⟨r, h1, h2, fun v hv => ?_⟩
      obtain ⟨h4, h5, F, h6, h7⟩ := h3 v hv
      exact ⟨h4, h5, F, (h6.mono (Nat.le_succ N)).same (turned_other hm h6.lt (fun e => by rw [e, hb] at h5; cases h5)), h7⟩
    bk := h.bk
    row := row_same h.row (fun k hk => turned_other hm (h.row.lt k hk).2 (fun e => h.row_map hmv (by rw [hk, e])))
    maps := by
      intro b' ρ' hb'
      by_cases e : b' = b
      · subst e
        rw [hb] at hb'
        cases hb'
        refine ⟨hbs, hF'.ext (fun t => ?_)⟩
        unfold upd
        by_cases ht : t = s
        · subst ht; rw [if_pos rfl, want_some (have_snoc_same nb hnew)]
        · rw [if_neg ht]
          unfold want
          rw [have_snoc_other nb (fun e => ht (congrArg Prod.snd e))]
      · obtain ⟨h1, h2⟩ := h.maps b' ρ' hb'
        refine ⟨h1, ((h2.mono (Nat.le_succ N)).same (turned_other hm h2.lt e)).ext (fun t => ?_)⟩
        unfold want
        have hne : (ρ', t) ≠ (ρ, s) := by
          intro e'
          have e1 : ρ' = ρ := congrArg Prod.fst e'
          subst e1
          exact e (h.one hb' hb)
        rw [have_snoc_other nb hne]
    one := h.one
    roles := by
      intro p hp
      rcases List.mem_append.1 hp with hp | hp
      · exact h.roles p hp
      · rw [List.mem_singleton.1 hp]; exact ⟨b, hb⟩
    bks := by
      have keep : ∀ (m : Nat) (c : Array Value), w.heap[m]? = some (.cells c 72 (0, 0)) → w'.heap[m]? = some (.cells c 72 (0, 0)) := fun m c h72 =>
        (turned_other hm (Array.getElem?_eq_some_iff.1 h72).1 (fun e => by rw [e, hmv] at h72; cases h72)).trans h72
      intro p hp
      rcases List.mem_append.1 hp with hp | hp
      · obtain ⟨c, hc⟩ := h.bks p hp; exact ⟨c, keep _ c hc⟩
      · rw [List.mem_singleton.1 hp]; obtain ⟨c, hc⟩ := hnb; exact ⟨c, keep _ c hc⟩ }

/-- THE LIST OF BUCKETS GROWN BY ONE, AND LAID INTO ITS CELL. -/
theorem Grp.push (h : Grp w base g N L M cs role bv) {w1 : World} {bv' : Value} {nb : Nat} (hrow : w1.ownsRow base 33 1 bv' (M.length + 1) (M.map ptr ++ [ptr nb])) (hg : w.grownBy w1 bv.ownBlock) :
    Grp (w1.setCell ⟨g, 9, none⟩ bv') base g N L (M ++ [nb]) (cs.setIfInBounds 9 bv') role bv' := by
  have hgg : w1.heap[g]? = some (.cells cs 48 (0, 0)) := (hg.block g h.glt (fun e => h.g_row e.symm)).trans h.hg
  have keep : ∀ (b : Nat) (es : Array MapEntry) (c : Nat), w.heap[b]? = some (Obj.map es c) → (w1.setCell ⟨g, 9, none⟩ bv').heap[b]? = w.heap[b]? := fun b es c hb =>
    (Below.heap_setCell _ _ _ _ (h.g_map hb)).trans (hg.block b (Array.getElem?_eq_some_iff.1 hb).1 (fun e => h.row_map hb e.symm))
  exact {
    hg := heap_setCell_same w1 g 9 cs 48 bv' hgg
    base_g := h.base_g
    len := by simp [h.len]
    plain := by
      intro q hq
      obtain ⟨r, h1, h2⟩ := h.plain q hq
      exact ⟨r, by rw [Array.getElem?_setIfInBounds, if_neg (by omega)]; exact h1, h2⟩
    vals := by
      obtain ⟨r, h1, h2, h3⟩ := h.vals
      refine ⟨r, by rw [Array.getElem?_setIfInBounds, if_neg (by omega)]; exact h1, h2, fun v hv => ?_⟩
      obtain ⟨h4, h5, F, h6, h7⟩ := h3 v hv
      obtain ⟨es, c, hm⟩ := h6.isMap
      exact ⟨h4, h5, F, h6.same (keep v es c hm), h7⟩
    bk := by rw [Array.getElem?_setIfInBounds, if_pos rfl, if_pos (by rw [h.len]; omega)]
    row := by
      rw [List.length_append, List.map_append]
      refine row_same hrow (fun k hk => Below.heap_setCell _ _ _ _ ?_)
      rintro rfl
      obtain ⟨cur, hc⟩ := row_block hrow hk
      rw [hgg] at hc
      cases hc
    maps := by
      intro b ρ hb
      obtain ⟨h1, h2⟩ := h.maps b ρ hb
      obtain ⟨es, c, hm⟩ := h2.isMap
      exact ⟨h1, h2.same (keep b es c hm)⟩
    roles := h.roles
    one := h.one
    bks := by
      intro p hp
      obtain ⟨c, hc⟩ := h.bks p hp
      exact ⟨c, ((Below.heap_setCell _ _ _ _ (h.g_72 hc)).trans (hg.block p.2 (Array.getElem?_eq_some_iff.1 hc).1 (fun e => h.row_72 hc e.symm))).trans hc⟩ }
end

end Go.Proofs.Qxb6601800a
