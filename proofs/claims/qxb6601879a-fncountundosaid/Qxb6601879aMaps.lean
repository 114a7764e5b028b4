import Derived.Test.Qxb6601879aRows
import Derived.WalkKit
import Derived.WalkSpells
import Derived.WalkLawsBesides
import Derived.Maps.OwnSet
import Derived.Maps.AppendAt
/-! Maps keyed by strings whose elements are of whatever type, each element held as it is: which keys are there, what stands at them, how many they are. -/
namespace Go.Proofs.Qxb6601879a
open Go.RowKit Go.Maps

/-- An element of whatever type, held as it is: the datum is the value itself. -/
def anyE (v : Value) : Option (DataW Value × List MemPlace) := some (.held v, [])

theorem law9 : Keyed Try.prog 9 := string_keyed Try.underlying9
def klit (s : ByteArray) : Lit := .string s.data.toList
theorem key9 {s : ByteArray} (h : s.size ≤ maxLen) : keyOf Try.prog 9 (.string s) = some (klit s) := WideMaps.keyOf_string_mk Try.underlying9 h
theorem klit_key (s : ByteArray) : WideAt.IsKeyLit (klit s) := trivial
theorem klit_inj {s t : ByteArray} (h : klit s = klit t) : s = t := by
  obtain ⟨⟨l⟩⟩ := s
  obtain ⟨⟨m⟩⟩ := t
  have : l = m := by simpa [klit] using h
  rw [this]

/-- Block b of w is a map keyed by strings, of at most N entries: sz entries; at key s stands F s. -/
def MapO (w : World) (b N sz : Nat) (F : ByteArray → Option Value) : Prop :=
  ∃ D : DataW Value, w.ownsMap Try.prog 9 anyE b N D ∧ (∀ s, has D (klit s) = (F s).isSome) ∧ (∀ s v z, F s = some v → D.atKey (klit s) z = .held v) ∧ size D = sz

/-- F with x at s. -/
def updF {β : Type} (F : ByteArray → β) (s : ByteArray) (x : β) (t : ByteArray) : β := if t = s then x else F t
theorem updF_same {β : Type} (F : ByteArray → β) (s : ByteArray) (x : β) : updF F s x s = x := by simp [updF]
theorem updF_other {β : Type} (F : ByteArray → β) {s t : ByteArray} (x : β) (h : t ≠ s) : updF F s x t = F t := by simp [updF, h]

variable {w w' : World} {b N sz : Nat} {F : ByteArray → Option Value}

theorem MapO.empty (hb : w.heap[b]? = some (.map #[] 0)) : MapO w b N 0 (fun _ => none) :=
  ⟨.map [], ⟨#[], 0, hb, ⟨by simp, MapKept.stamped_empty 0, by simp⟩, Nat.zero_le _, rfl⟩, fun _ => rfl, (fun _ _ _ e => by cases e), rfl⟩

theorem MapO.mono (h : MapO w b N sz F) {N' : Nat} (hn : N ≤ N') : MapO w b N' sz F := by
  obtain ⟨D, h1, h2⟩ := h; exact ⟨D, h1.mono hn, h2⟩

theorem MapO.lt (h : MapO w b N sz F) : b < w.heap.size := by
  obtain ⟨D, h1, _⟩ := h; exact h1.lt

theorem MapO.isMap (h : MapO w b N sz F) : ∃ es c, w.heap[b]? = some (.map es c) := by
  obtain ⟨D, ⟨es, c, hb, _⟩, _⟩ := h; exact ⟨es, c, hb⟩

theorem MapO.ext (h : MapO w b N sz F) {F' : ByteArray → Option Value} {sz' : Nat} (e : F = F') (e' : sz = sz') : MapO w b N sz' F' := by
  subst e e'; exact h

theorem MapO.same (h : MapO w b N sz F) (hb : w'.heap[b]? = w.heap[b]?) : MapO w' b N sz F := by
  obtain ⟨D, ⟨es, c, h0, r⟩, h2⟩ := h
  exact ⟨D, ⟨es, c, hb.trans h0, r⟩, h2⟩

theorem MapO.size_le (h : MapO w b N sz F) : sz ≤ N := by
  obtain ⟨D, h1, _, _, rfl⟩ := h; exact h1.size_le

theorem held_at {D : DataW Value} {s : ByteArray} {z v : Value} {ps : List MemPlace} (hh : has D (klit s) = (F s).isSome) (hat : ∀ v z, F s = some v → D.atKey (klit s) z = .held v)
    (hv : anyE v = some (D.atKey (klit s) (.held z), ps)) : v = (F s).getD z := by
  have e1 : DataW.held v = D.atKey (klit s) (.held z) := congrArg Prod.fst (Option.some.inj hv)
  cases hF : F s with
  | none =>
    rw [hF] at hh
    rw [atKey_of_not_has hh] at e1
    cases e1; rfl
  | some x =>
    rw [hat x _ hF] at e1
    cases e1; rfl

theorem MapO.look {t e : TypeId} {z : Value} (h : MapO w b N sz F) (ht : Try.prog.underlying t = some (.map 9 e)) (hz : (zeroValue e).run Try.prog w = .ok z w) {s : ByteArray} (hs : s.size ≤ maxLen) :
    (Instr.lookup t (.map (some b)) (.string s) false).run Try.prog w = .ok ((F s).getD z) w := by
  obtain ⟨D, h1, h2, h3, _⟩ := h
  obtain ⟨v, ps, hrun, hv⟩ := h1.lookup law9 ht hz (zd := .held z) (zp := []) rfl (key9 hs)
  rw [hrun, held_at (h2 s) (fun v z => h3 s v z) hv]

theorem MapO.look_ok {t e : TypeId} {z : Value} (h : MapO w b N sz F) (ht : Try.prog.underlying t = some (.map 9 e)) (hz : (zeroValue e).run Try.prog w = .ok z w) {s : ByteArray} (hs : s.size ≤ maxLen) :
    (Instr.lookup t (.map (some b)) (.string s) true).run Try.prog w = .ok (.tuple #[(F s).getD z, .bool (F s).isSome]) w := by
  obtain ⟨D, h1, h2, h3, _⟩ := h
  obtain ⟨v, ps, hrun, hv⟩ := h1.look_ok law9 ht hz (zd := .held z) (zp := []) rfl (key9 hs)
  rw [hrun, held_at (h2 s) (fun v z => h3 s v z) hv, h2 s]

theorem MapO.len {t e : TypeId} (h : MapO w b N sz F) (ht : Try.prog.underlying t = some (.map 9 e)) (ty : TypeId) :
    (Builtin.len_ #[t] ty #[.map (some b)]).run Try.prog w = .ok (.int .i64 sz) w := by
  obtain ⟨D, h1, _, _, rfl⟩ := h
  exact h1.len ht ty

theorem MapO.store {t e : TypeId} (h : MapO w b N sz F) (ht : Try.prog.underlying t = some (.map 9 e)) (hn : N < maxLen) {s : ByteArray} (hs : s.size ≤ maxLen) (v : Value) :
    ∃ w', (Instr.mapUpdate t (.map (some b)) (.string s) v).run Try.prog w = .ok () w' ∧ MapO w' b (N + 1) (if (F s).isSome then sz else sz + 1) (updF F s (some v)) ∧ w.mapTurned w' b := by
  obtain ⟨D, h1, h2, h3, rfl⟩ := h
  obtain ⟨w', hrun, h4, h5⟩ := h1.store law9 ht hn (key9 hs) (val := v) (d := .held v) (ps := []) rfl
  refine ⟨w', hrun, ⟨_, h4, fun t => ?_, fun t x z hx => ?_, ?_⟩, h5⟩
  · by_cases e : t = s
    · subst e; rw [updF_same, has_put_same h1.isMap (klit_key t)]; rfl
    · rw [updF_other _ _ e, has_put_other (fun e' => e (klit_inj e')), h2]
  · by_cases e : t = s
    · subst e; rw [updF_same] at hx; cases hx; exact atKey_put_same h1.isMap (klit_key t) _ _
    · rw [updF_other _ _ e] at hx; rw [atKey_put_other (fun e' => e (klit_inj e'))]; exact h3 t x z hx
  · rw [size_put (h1.tidy law9), h2]

theorem MapO.drop {t e : TypeId} (h : MapO w b N sz F) (ht : Try.prog.underlying t = some (.map 9 e)) {s : ByteArray} (hs : s.size ≤ maxLen) (ty : TypeId) :
    ∃ w', (Builtin.delete_ #[t, 9] ty #[.map (some b), .string s]).run Try.prog w = .ok (.tuple #[]) w' ∧ MapO w' b N (if (F s).isSome then sz - 1 else sz) (updF F s none) ∧ w.mapTurned w' b := by
  obtain ⟨D, h1, h2, h3, rfl⟩ := h
  obtain ⟨w', hrun, h4, h5⟩ := h1.drop law9 ht (key9 hs) ty
  refine ⟨w', hrun, ⟨_, h4, fun t => ?_, fun t x z hx => ?_, ?_⟩, h5⟩
  · by_cases e : t = s
    · subst e; rw [updF_same, has_del_same]; rfl
    · rw [updF_other _ _ e, has_del_other (fun e' => e (klit_inj e')), h2]
  · by_cases e : t = s
    · subst e; rw [updF_same] at hx; cases hx
    · rw [updF_other _ _ e] at hx; rw [atKey_del_other (fun e' => e (klit_inj e'))]; exact h3 t x z hx
  · have := size_del (k := klit s) (h1.tidy law9)
    rw [h2 s] at this
    split at this
    · rename_i hs'; rw [if_pos hs']; omega
    · rename_i hs'; rw [if_neg hs']; omega

theorem MapO.pos (h : MapO w b N sz F) {s : ByteArray} (hs : (F s).isSome = true) : 0 < sz := by
  obtain ⟨D, h1, h2, _, rfl⟩ := h
  have hh : has D (klit s) = true := (h2 s).trans hs
  cases D with
  | map es =>
    obtain ⟨p, hp, _⟩ := List.any_eq_true.1 hh
    exact List.length_pos_of_mem hp
  | _ => cases hh

theorem zero3 (w : World) : (zeroValue 3).run Try.prog w = .ok (.int .i64 0) w := by kernel_rfl
theorem zero54 (w : World) : (zeroValue 54).run Try.prog w = .ok (.map none) w := by kernel_rfl

theorem turned_other {b i : Nat} (hm : w.mapTurned w' b) (hi : i < w.heap.size) (hne : i ≠ b) : w'.heap[i]? = w.heap[i]? :=
  hm.grown.block i hi (fun e => hne (by cases e; rfl))

theorem turned_is {b : Nat} (hm : w.mapTurned w' b) : ∃ es c, w.heap[b]? = some (.map es c) := by
  obtain ⟨es, c, _, _, h, _⟩ := hm; exact ⟨es, c, h⟩

/-- A store into a map, at the operation, by what its run leaves. -/
theorem wpList_upd {P : Program} {w : World} {ops : Array Oper} {rest : List Oper} {o : Oper} {a : Act} {Q : Exit → Act → World → Prop} {R : World → Prop}
    (hg : o.guard = none) (m x v : Operand) (t : TypeId) (hop : o.op = Op.mapUpdate t m x v) (mv xv vv : Value) (hm : a.eval m = mv) (hx : a.eval x = xv) (hv : a.eval v = vv)
    (hex : ∃ w', (Instr.mapUpdate t mv xv vv).run P w = .ok () w' ∧ R w') (hK : ∀ w', R w' → wpList P ops Q rest (a.put o.dst undef) w') : wpList P ops Q (o :: rest) a w := by
  refine wpList_plain hg fun K' hK' => ?_
  obtain ⟨w', hrun, r1⟩ := hex
  unfold Oper.wp
  simp [execOp, hop, hm, hx, hv, hrun, Result.andThen]
  exact hK' _ _ (hK w' r1)

/-- 'delete', likewise. -/
theorem wpList_del {P : Program} {w : World} {ops : Array Oper} {rest : List Oper} {o : Oper} {a : Act} {Q : Exit → Act → World → Prop} {R : World → Prop}
    (hg : o.guard = none) (m x : Operand) (t k : TypeId) (hop : o.op = Op.call { callee := Callee.builtin Builtin.delete, args := #[m, x], argTypes := #[t, k] }) (mv xv : Value) (hm : a.eval m = mv) (hx : a.eval x = xv)
    (hex : ∃ w', (Builtin.delete_ #[t, k] o.type #[mv, xv]).run P w = .ok (.tuple #[]) w' ∧ R w') (hK : ∀ w', R w' → wpList P ops Q rest (a.put o.dst (.tuple #[])) w') : wpList P ops Q (o :: rest) a w := by
  refine wpList_plain hg fun K' hK' => ?_
  obtain ⟨w', hrun, r1⟩ := hex
  unfold Oper.wp
  simp [execOp, hop, resolve, invoke, builtin, hm, hx, hrun, Result.andThen]
  exact hK' _ _ (hK w' r1)

end Go.Proofs.Qxb6601879a
