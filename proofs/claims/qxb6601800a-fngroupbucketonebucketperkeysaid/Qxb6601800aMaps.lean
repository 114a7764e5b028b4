import Derived.Test.Qxb6601800aRows
import Derived.WalkKit
import Derived.WalkSpells
import Derived.WalkLawsBesides
import Derived.Maps.OwnSet
import Derived.Maps.AppendAt
/-! Maps keyed by strings whose elements are of whatever type, each element held as it is. -/
namespace Go.Proofs.Qxb6601800a
open Go.RowKit Go.Maps

/-- An element of whatever type, held as it is: the datum is the value itself. -/
def anyE (v : Value) : Option (DataW Value × List MemPlace) := some (.held v, [])

theorem law9 : Keyed Try.prog 9 := string_keyed Try.underlying9
def klit (s : ByteArray) : Lit := .string s.data.toList
theorem key9 {s : ByteArray} (h : s.size ≤ maxLen) : keyOf Try.prog 9 (.string s) = some (klit s) := WideMaps.keyOf_string_mk Try.underlying9 h
theorem klit_key (s : ByteArray) : WideAt.IsKeyLit (klit s) := trivial
theorem klit_inj {s t : ByteArray} (h : klit s = klit t) : s = t := by
  obtain ⟨⟨l⟩⟩ := s
  obtain ⟨⟨m⟩⟩ := t
  have : l = m := by simpa [klit] using h
  rw [this]

/-- What stands at a key. -/
def atS (D : DataW Value) (s : ByteArray) (z : Value) : Value :=
  match D.atKey (klit s) (.held z) with
  | .held v => v
  | _ => z

theorem atS_put_same {D : DataW Value} (hD : IsMap D) (s : ByteArray) (v z : Value) : atS (D.put (klit s) (.held v)) s z = v := by
  unfold atS; rw [atKey_put_same hD (klit_key s)]
theorem atS_put_other {D : DataW Value} {s t : ByteArray} (h : t ≠ s) (v z : Value) : atS (D.put (klit s) (.held v)) t z = atS D t z := by
  unfold atS; rw [atKey_put_other (fun e => h (klit_inj e))]

/-- Block b of w is a map keyed by strings, of at most n entries; at each key s stands F s (z where there is none). -/
def MapF (w : World) (b n : Nat) (z : Value) (F : ByteArray → Value) : Prop :=
  ∃ D, w.ownsMap Try.prog 9 anyE b n D ∧ ∀ s, atS D s z = F s

/-- F with v at s. -/
def upd (F : ByteArray → Value) (s : ByteArray) (v : Value) (t : ByteArray) : Value := if t = s then v else F t

variable {w w' : World} {b n : Nat} {z : Value} {F : ByteArray → Value}

theorem MapF.made (w : World) (z : Value) : MapF (w.alloc (.map #[] 0)) w.heap.size 0 z (fun _ => z) :=
  ⟨.map [], World.ownsMap_made w Try.prog 9 anyE, fun _ => rfl⟩

theorem MapF.mono (h : MapF w b n z F) {n' : Nat} (hn : n ≤ n') : MapF w b n' z F := by
  obtain ⟨D, h1, h2⟩ := h; exact ⟨D, h1.mono hn, h2⟩

theorem MapF.lt (h : MapF w b n z F) : b < w.heap.size := by
  obtain ⟨D, h1, _⟩ := h; exact h1.lt

theorem MapF.isMap (h : MapF w b n z F) : ∃ es c, w.heap[b]? = some (.map es c) := by
  obtain ⟨D, ⟨es, c, hb, _⟩, _⟩ := h; exact ⟨es, c, hb⟩

theorem MapF.ext (h : MapF w b n z F) {G : ByteArray → Value} (e : ∀ s, F s = G s) : MapF w b n z G := by
  obtain ⟨D, h1, h2⟩ := h; exact ⟨D, h1, fun s => (h2 s).trans (e s)⟩

theorem MapF.same (h : MapF w b n z F) (hb : w'.heap[b]? = w.heap[b]?) : MapF w' b n z F := by
  obtain ⟨D, ⟨es, c, h0, r⟩, h2⟩ := h
  exact ⟨D, ⟨es, c, hb.trans h0, r⟩, h2⟩

theorem MapF.look {t e : TypeId} (h : MapF w b n z F) (ht : Try.prog.underlying t = some (.map 9 e)) (hz : (zeroValue e).run Try.prog w = .ok z w) {s : ByteArray} (hs : s.size ≤ maxLen) :
    (Instr.lookup t (.map (some b)) (.string s) false).run Try.prog w = .ok (F s) w := by
  obtain ⟨D, h1, h2⟩ := h
  obtain ⟨v, ps, hrun, hv⟩ := h1.lookup law9 ht hz (zd := .held z) (zp := []) rfl (key9 hs)
  rw [hrun]
  have : F s = v := by
    rw [← h2 s, atS]
    have e1 : DataW.held v = D.atKey (klit s) (.held z) := congrArg Prod.fst (Option.some.inj hv)
    rw [← e1]
  rw [this]

theorem MapF.store {t e : TypeId} (h : MapF w b n z F) (ht : Try.prog.underlying t = some (.map 9 e)) (hn : n < maxLen) {s : ByteArray} (hs : s.size ≤ maxLen) (v : Value) :
    ∃ w', (Instr.mapUpdate t (.map (some b)) (.string s) v).run Try.prog w = .ok () w' ∧ MapF w' b (n + 1) z (upd F s v) ∧ w.mapTurned w' b := by
  obtain ⟨D, h1, h2⟩ := h
  obtain ⟨w', hrun, h3, h4⟩ := h1.store law9 ht hn (key9 hs) (val := v) (d := .held v) (ps := []) rfl
  refine ⟨w', hrun, ⟨_, h3, fun t => ?_⟩, h4⟩
  unfold upd
  by_cases e : t = s
  · subst e; rw [if_pos rfl, atS_put_same h1.isMap]
  · rw [if_neg e, atS_put_other e, h2]

theorem zero33 (w : World) : (zeroValue 33).run Try.prog w = .ok (.pointer none) w := by kernel_rfl
theorem zero43 (w : World) : (zeroValue 43).run Try.prog w = .ok (.map none) w := by kernel_rfl

end Go.Proofs.Qxb6601800a
