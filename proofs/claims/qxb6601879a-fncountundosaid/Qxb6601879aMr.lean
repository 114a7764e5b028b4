import Derived.Test.Qxb6601879aPlain
/-! The map of maps in memory. -/
namespace Go.Proofs.Qxb6601879a
open Go.RowKit Go.Maps

/-- What a map of maps holds: at each outer key the inner map's size and what it holds. -/
abbrev Con := ByteArray → Option (Nat × (ByteArray → Option Int))

def topF (G : Con) (inn : ByteArray → Nat) (a : ByteArray) : Option Value := if (G a).isSome then some (.map (some (inn a))) else none
def innF (f : ByteArray → Option Int) (s : ByteArray) : Option Value := (f s).map (Value.int .i64)

/-- THE MAP OF MAPS. m: its block; inn: the inner maps' blocks; sz: how many outer keys; G: what it holds; N: no map has more entries. -/
structure MR (w : World) (base m N : Nat) (inn : ByteArray → Nat) (sz : Nat) (G : Con) : Prop where
  base_m : base ≤ m
  top : MapO w m N sz (topF G inn)
  inner : ∀ a c f, G a = some (c, f) → base ≤ inn a ∧ inn a ≠ m ∧ MapO w (inn a) N c (innF f)
  inj : ∀ a a', (G a).isSome = true → (G a').isSome = true → inn a = inn a' → a = a'

/-- Nothing has turned but maps from 'base' on, and what is new. -/
structure Kept (w w' : World) (base : Nat) : Prop where
  os : w'.os = w.os
  tape : w'.tape = w.tape
  output : w'.output = w.output
  size : w.heap.size ≤ w'.heap.size
  block : ∀ i, i < w.heap.size → (i < base ∨ ¬ ∃ es c, w.heap[i]? = some (Obj.map es c)) → w'.heap[i]? = w.heap[i]?

section kept
variable {w w1 w2 : World} {base : Nat}
theorem Kept.refl (w : World) (base : Nat) : Kept w w base := ⟨rfl, rfl, rfl, Nat.le_refl _, fun _ _ _ => rfl⟩
theorem Kept.trans (h : Kept w w1 base) (h' : Kept w1 w2 base) : Kept w w2 base where
  os := h'.os.trans h.os
  tape := h'.tape.trans h.tape
  output := h'.output.trans h.output
  size := Nat.le_trans h.size h'.size
  block i hi hn := by
    have e := h.block i hi hn
    exact (h'.block i (Nat.lt_of_lt_of_le hi h.size) (by rw [e]; exact hn)).trans e
theorem Kept.alloc (w : World) (base : Nat) (o : Obj) : Kept w (w.alloc o) base := ⟨rfl, rfl, rfl, by simp, fun i hi _ => Below.heap_alloc _ _ _ hi⟩
theorem Kept.map {b : Nat} (hm : w.mapTurned w1 b) (hb : base ≤ b) : Kept w w1 base := by
  have hg := hm.grown
  obtain ⟨es, c, h1⟩ := turned_is hm
  refine ⟨hg.os, hg.tape, hg.output, hg.size, fun i hi hn => turned_other hm hi ?_⟩
  rintro rfl
  rcases hn with hn | hn
  · omega
  · exact hn ⟨es, c, h1⟩
theorem Kept.below (h : Kept w w1 base) : Below base w w1 ∨ ¬ base ≤ w.heap.size := by
  by_cases hb : base ≤ w.heap.size
  · exact .inl ⟨h.os, h.tape, h.output, h.size, fun k hk => h.block k (by omega) (.inl hk)⟩
  · exact .inr hb
end kept

section
variable {w w' : World} {base m N sz : Nat} {inn : ByteArray → Nat} {G : Con}

theorem MR.same (h : MR w base m N inn sz G) (hb : ∀ i, i < w.heap.size → w'.heap[i]? = w.heap[i]?) : MR w' base m N inn sz G where
  base_m := h.base_m
  top := h.top.same (hb m h.top.lt)
  inner a c f hG := by
    obtain ⟨h1, h2, h3⟩ := h.inner a c f hG
    exact ⟨h1, h2, h3.same (hb _ h3.lt)⟩
  inj := h.inj

theorem MR.alloc (h : MR w base m N inn sz G) (o : Obj) : MR (w.alloc o) base m N inn sz G := h.same (fun i hi => Below.heap_alloc w o i hi)
theorem MR.drewN (h : MR w base m N inn sz G) (n : Nat) : MR (w.drewN n) base m N inn sz G := h.same (fun _ _ => rfl)

theorem MR.mono (h : MR w base m N inn sz G) {N' : Nat} (hN : N ≤ N') : MR w base m N' inn sz G where
  base_m := h.base_m
  top := h.top.mono hN
  inner a c f hG := ⟨(h.inner a c f hG).1, (h.inner a c f hG).2.1, (h.inner a c f hG).2.2.mono hN⟩
  inj := h.inj

theorem MR.ext (h : MR w base m N inn sz G) {sz' : Nat} {G' : Con} (e : G = G') (e' : sz = sz') : MR w base m N inn sz' G' := by
  subst e e'; exact h

theorem MR.look51 (h : MR w base m N inn sz G) {a : ByteArray} (ha : a.size ≤ maxLen) :
    (Instr.lookup 51 (.map (some m)) (.string a) false).run Try.prog w = .ok (.map (if (G a).isSome then some (inn a) else none)) w := by
  rw [h.top.look Try.underlying51 (zero54 w) ha]
  unfold topF
  split <;> rfl

theorem MR.look51_some (h : MR w base m N inn sz G) {a : ByteArray} (ha : a.size ≤ maxLen) (hG : (G a).isSome = true) :
    (Instr.lookup 51 (.map (some m)) (.string a) false).run Try.prog w = .ok (.map (some (inn a))) w := by
  rw [h.look51 ha, if_pos hG]

theorem MR.look51_none (h : MR w base m N inn sz G) {a : ByteArray} (ha : a.size ≤ maxLen) (hG : G a = none) :
    (Instr.lookup 51 (.map (some m)) (.string a) false).run Try.prog w = .ok (.map none) w := by
  rw [h.look51 ha, hG]; rfl

theorem MR.look51_ok (h : MR w base m N inn sz G) {a : ByteArray} (ha : a.size ≤ maxLen) (hG : (G a).isSome = true) :
    (Instr.lookup 51 (.map (some m)) (.string a) true).run Try.prog w = .ok (.tuple #[.map (some (inn a)), .bool true]) w := by
  rw [h.top.look_ok Try.underlying51 (zero54 w) ha]
  simp [topF, hG]

theorem MR.look54 (h : MR w base m N inn sz G) {a b : ByteArray} {c : Nat} {f : ByteArray → Option Int} (hG : G a = some (c, f)) (hb : b.size ≤ maxLen) :
    (Instr.lookup 54 (.map (some (inn a))) (.string b) false).run Try.prog w = .ok (.int .i64 ((f b).getD 0)) w := by
  rw [(h.inner a c f hG).2.2.look Try.underlying54 (zero3 w) hb]
  unfold innF
  cases f b <;> rfl

theorem MR.look54_ok (h : MR w base m N inn sz G) {a b : ByteArray} {c : Nat} {f : ByteArray → Option Int} (hG : G a = some (c, f)) (hb : b.size ≤ maxLen) {n : Int} (hn : f b = some n) :
    (Instr.lookup 54 (.map (some (inn a))) (.string b) true).run Try.prog w = .ok (.tuple #[.int .i64 n, .bool true]) w := by
  rw [(h.inner a c f hG).2.2.look_ok Try.underlying54 (zero3 w) hb]
  simp [innF, hn]

theorem MR.len51 (h : MR w base m N inn sz G) (ty : TypeId) : (Builtin.len_ #[51] ty #[.map (some m)]).run Try.prog w = .ok (.int .i64 sz) w := h.top.len Try.underlying51 ty
theorem MR.len54 (h : MR w base m N inn sz G) {a : ByteArray} {c : Nat} {f : ByteArray → Option Int} (hG : G a = some (c, f)) (ty : TypeId) :
    (Builtin.len_ #[54] ty #[.map (some (inn a))]).run Try.prog w = .ok (.int .i64 c) w := (h.inner a c f hG).2.2.len Try.underlying54 ty

/-- A NEW INNER MAP UNDER A NEW KEY. -/
theorem MR.newInner (h : MR w base m N inn sz G) (hbase : base ≤ w.heap.size) (hN : N < maxLen) {a : ByteArray} (ha : a.size ≤ maxLen) (hG : G a = none) :
    ∃ w', (Instr.mapUpdate 51 (.map (some m)) (.string a) (.map (some w.heap.size))).run Try.prog (w.alloc (.map #[] 0)) = .ok () w' ∧
      (MR w' base m (N + 1) (updF inn a w.heap.size) (sz + 1) (updF G a (some (0, fun _ => none))) ∧ Kept w w' base) := by
  have hA := h.alloc (.map #[] 0)
  obtain ⟨w', hrun, hF, hm⟩ := hA.top.store Try.underlying51 hN ha (.map (some w.heap.size))
  refine ⟨w', hrun, ⟨h.base_m, hF.ext ?_ ?_, ?_, ?_⟩, (Kept.alloc w base _).trans (Kept.map hm h.base_m)⟩
  · funext t
    by_cases e : t = a
    · subst e; simp [updF, topF]
    · simp only [updF, topF, if_neg e]
  · simp [topF, hG]
  · intro a' c f hG'
    by_cases e : a' = a
    · subst e
      rw [updF_same] at hG' ⊢
      cases hG'
      refine ⟨hbase, fun e => ?_, (MapO.empty (heap_alloc_new w _) : MapO (w.alloc (.map #[] 0)) w.heap.size (N + 1) 0 _).same (turned_other hm (by simp) (fun e => ?_))⟩
      · have := h.top.lt; omega
      · have := h.top.lt; omega
    · rw [updF_other _ _ e] at hG' ⊢
      obtain ⟨h1, h2, h3⟩ := hA.inner a' c f hG'
      exact ⟨h1, h2, (h3.mono (Nat.le_succ N)).same (turned_other hm h3.lt h2)⟩
  · intro a1 a2 h1 h2 e
    have lt : ∀ x, (G x).isSome = true → inn x < w.heap.size := fun x hx => by
      obtain ⟨⟨c, f⟩, hcf⟩ := Option.isSome_iff_exists.1 hx
      exact (h.inner x c f hcf).2.2.lt
    by_cases e1 : a1 = a <;> by_cases e2 : a2 = a
    · rw [e1, e2]
    · subst e1
      rw [updF_same, updF_other _ _ e2] at e
      rw [updF_other _ _ e2] at h2
      have := lt a2 h2; omega
    · subst e2
      rw [updF_same, updF_other _ _ e1] at e
      rw [updF_other _ _ e1] at h1
      have := lt a1 h1; omega
    · rw [updF_other _ _ e1] at h1 e
      rw [updF_other _ _ e2] at h2 e
      exact h.inj a1 a2 h1 h2 e

/-- An inner map turned: the others stay. -/
theorem MR.turned (h : MR w base m N inn sz G) {a : ByteArray} {c c' : Nat} {f f' : ByteArray → Option Int} (hG : G a = some (c, f)) (hm : w.mapTurned w' (inn a)) {N' : Nat} (hN : N ≤ N') (hF : MapO w' (inn a) N' c' (innF f')) :
    MR w' base m N' inn sz (updF G a (some (c', f'))) := by
  obtain ⟨hb, hne, hO⟩ := h.inner a c f hG
  refine ⟨h.base_m, ?_, ?_, ?_⟩
  · refine ((h.top.mono hN).same (turned_other hm h.top.lt hne.symm)).ext ?_ rfl
    funext t
    by_cases e : t = a
    · subst e; simp [topF, updF, hG]
    · simp [topF, updF, e]
  · intro a' c1 f1 h1
    by_cases e : a' = a
    · subst e
      rw [updF_same] at h1
      cases h1
      exact ⟨hb, hne, hF⟩
    · rw [updF_other _ _ e] at h1
      obtain ⟨h2, h3, h4⟩ := h.inner a' c1 f1 h1
      exact ⟨h2, h3, (h4.mono hN).same (turned_other hm h4.lt (fun e' => e (h.inj a' a (by rw [h1]; rfl) (by rw [hG]; rfl) e')))⟩
  · intro a1 a2 h1 h2 e
    have up : ∀ x, (updF G a (some (c', f')) x).isSome = true → (G x).isSome = true := by
      intro x hx
      by_cases e : x = a
      · subst e; rw [hG]; rfl
      · rwa [updF_other _ _ e] at hx
    exact h.inj a1 a2 (up a1 h1) (up a2 h2) e

theorem MR.put54 (h : MR w base m N inn sz G) (hN : N < maxLen) {a b : ByteArray} (hb : b.size ≤ maxLen) {c : Nat} {f : ByteArray → Option Int} (hG : G a = some (c, f)) (v : Int) :
    ∃ w', (Instr.mapUpdate 54 (.map (some (inn a))) (.string b) (.int .i64 v)).run Try.prog w = .ok () w' ∧
      (MR w' base m (N + 1) inn sz (updF G a (some (if (f b).isSome then c else c + 1, updF f b (some v)))) ∧ Kept w w' base) := by
  obtain ⟨hbs, hne, hO⟩ := h.inner a c f hG
  obtain ⟨w', hrun, hF, hm⟩ := hO.store Try.underlying54 hN hb (.int .i64 v)
  refine ⟨w', hrun, h.turned hG hm (Nat.le_succ N) (hF.ext ?_ ?_), Kept.map hm hbs⟩
  · funext t
    by_cases e : t = b
    · subst e; simp [updF, innF]
    · simp [updF, innF, e]
  · simp [innF]

theorem MR.del54 (h : MR w base m N inn sz G) {a b : ByteArray} (hb : b.size ≤ maxLen) {c : Nat} {f : ByteArray → Option Int} (hG : G a = some (c, f)) (ty : TypeId) :
    ∃ w', (Builtin.delete_ #[54, 9] ty #[.map (some (inn a)), .string b]).run Try.prog w = .ok (.tuple #[]) w' ∧
      (MR w' base m N inn sz (updF G a (some (if (f b).isSome then c - 1 else c, updF f b none))) ∧ Kept w w' base) := by
  obtain ⟨hbs, hne, hO⟩ := h.inner a c f hG
  obtain ⟨w', hrun, hF, hm⟩ := hO.drop Try.underlying54 hb ty
  refine ⟨w', hrun, h.turned hG hm (Nat.le_refl N) (hF.ext ?_ ?_), Kept.map hm hbs⟩
  · funext t
    by_cases e : t = b
    · subst e; simp [updF, innF]
    · simp [updF, innF, e]
  · simp [innF]

theorem MR.del51 (h : MR w base m N inn sz G) {a : ByteArray} (ha : a.size ≤ maxLen) (hG : (G a).isSome = true) (ty : TypeId) :
    ∃ w', (Builtin.delete_ #[51, 9] ty #[.map (some m), .string a]).run Try.prog w = .ok (.tuple #[]) w' ∧
      (MR w' base m N inn (sz - 1) (updF G a none) ∧ Kept w w' base) := by
  obtain ⟨w', hrun, hF, hm⟩ := h.top.drop Try.underlying51 ha ty
  refine ⟨w', hrun, ⟨h.base_m, hF.ext ?_ ?_, ?_, ?_⟩, Kept.map hm h.base_m⟩
  · funext t
    by_cases e : t = a
    · subst e; simp [updF, topF]
    · simp [updF, topF, e]
  · simp [topF, hG]
  · intro a' c f h1
    by_cases e : a' = a
    · subst e; rw [updF_same] at h1; cases h1
    · rw [updF_other _ _ e] at h1
      obtain ⟨h2, h3, h4⟩ := h.inner a' c f h1
      exact ⟨h2, h3, h4.same (turned_other hm h4.lt h3)⟩
  · intro a1 a2 h1 h2 e
    have up : ∀ x, (updF G a none x).isSome = true → (G x).isSome = true := by
      intro x hx
      by_cases e : x = a
      · subst e; rw [updF_same] at hx; cases hx
      · rwa [updF_other _ _ e] at hx
    exact h.inj a1 a2 (up a1 h1) (up a2 h2) e
end

/-- What a model holds. -/
def conOf (R : Rws) : Con := fun a => (get R a).map (fun ps => (ps.length, get ps))

theorem conOf_put (R : Rws) (a : ByteArray) (ps : Pairs) : conOf (put R a ps) = updF (conOf R) a (some (ps.length, get ps)) := by
  funext t
  unfold conOf
  by_cases e : t = a
  · subst e; rw [get_put_same, updF_same]; rfl
  · rw [get_put_other _ _ e, updF_other _ _ e]

theorem get_put_fun {β : Type} (l : List (ByteArray × β)) (k : ByteArray) (v : β) : get (put l k v) = updF (get l) k (some v) := by
  funext t
  by_cases e : t = k
  · subst e; rw [get_put_same, updF_same]
  · rw [get_put_other _ _ e, updF_other _ _ e]

end Go.Proofs.Qxb6601879a
