/- The proof of 'Rows.FnCountUndoSaid': the frame after the skeleton tool's; the walk is 'law5'. -/
import Derived.Test.Qxb6601879aRows
import Derived.Test.Qxb6601879aLaw
import Derived.WalkKit
import Derived.ProofKit
import Derived.OpenShut
import Derived.ShutString
import Derived.ChangeOld
import Derived.Below
import Derived.Deep.Slices
import Derived.Deep.Strs
namespace Go.Proofs.Qxb6601879a.fnCountUndo
open Go.ChangeShapes Go.WideShapes Go.ChangeAt Go.RowKit
open Go.ChangeMaps (open_string shut_string)
set_option linter.unusedVariables false

theorem own : ownKnob Try.prog.godebug = none := by kernel_rfl
theorem laidOut : laidOutB Try.prog = true := by kernel_rfl
theorem cells9 : Try.prog.cellsOf 9 = 1 := by kernel_rfl
theorem cells3 : Try.prog.cellsOf 3 = 1 := by kernel_rfl

/-- A block's cell has no spot. -/
theorem no_spot {w : World} {a : Addr} {v : Value} (h : w.cell? (a.add 0) = some v) : a.spot = none := by
  simp [Addr.add] at h
  cases hs : a.spot with
  | none => rfl
  | some s =>
    unfold World.cell? at h
    split at h
    · rw [hs] at h; simp at h
    · cases h

/-- What the walk is told of a slice of strings, and of ints, that came in. -/
def IsStrs (w : World) (oa : Option Addr) (n : Nat) : Prop := ∃ (kb ko : Nat) (S : Nat → ByteArray), n ≤ maxLen ∧ StrAt w oa n kb ko S ∧ ∀ i, i < n → (S i).size ≤ maxLen
def IsInts (w : World) (oa : Option Addr) (n : Nat) : Prop := ∃ (kb ko : Nat) (C : Nat → Int), n ≤ maxLen ∧ IntAt w oa n kb ko C

theorem opened_strs {H : Type} {enc : TypeId × Value → H} {w : World} {oa : Option Addr} {n cap fuel : Nat} {x : DataW H × List MemPlace}
    (h : DataW.trod enc Try.prog w 0 (fun _ => true) true fuel 22 [.slice oa n cap] = some x) : IsStrs w oa n := by
  rcases Go.Deep.open_slice1 Try.underlying22 cells9 h with ⟨hcs, _⟩ | ⟨a, len, cp, m, fl, V, D, Pl, hcs, _, hl, hm, hmm, _, hel⟩
  · simp at hcs
    obtain ⟨rfl, rfl, rfl⟩ := hcs
    exact ⟨0, 0, fun _ => ByteArray.empty, Nat.zero_le _, StrAt.nil w, fun i hi => absurd hi (Nat.not_lt_zero _)⟩
  · simp at hcs
    obtain ⟨rfl, rfl, rfl⟩ := hcs
    simp at hmm
    subst hmm
    obtain ⟨S, hS⟩ := Go.Deep.choose_lt (α := ByteArray) (n := n) (p := fun i s => w.cell? (a.add i) = some (.string s) ∧ s.size ≤ maxLen) (fun i hi => by
      obtain ⟨hc, hx⟩ := hel i (by omega)
      obtain ⟨s, e, _, hs⟩ := DataW.trod_string Try.underlying9 hx
      rw [(List.cons.inj e).1] at hc
      exact ⟨s, hc, hs⟩)
    obtain ⟨kb, ko, sp⟩ := a
    have hsp : 0 < n → sp = none := fun hn => no_spot (a := ⟨kb, ko, sp⟩) (hS 0 hn).1
    refine ⟨kb, ko, S, Nat.le_trans hl hm, ⟨fun hn => by rw [hsp hn], fun i hi => ?_⟩, fun i hi => (hS i hi).2⟩
    have := (hS i hi).1
    have e := hsp (by omega)
    subst e
    rwa [add_lit] at this

theorem opened_ints {H : Type} {enc : TypeId × Value → H} {w : World} {oa : Option Addr} {n cap fuel : Nat} {x : DataW H × List MemPlace}
    (h : DataW.trod enc Try.prog w 0 (fun _ => true) true fuel 23 [.slice oa n cap] = some x) : IsInts w oa n := by
  rcases Go.Deep.open_slice1 Try.underlying23 cells3 h with ⟨hcs, _⟩ | ⟨a, len, cp, m, fl, V, D, Pl, hcs, _, hl, hm, hmm, _, hel⟩
  · simp at hcs
    obtain ⟨rfl, rfl, rfl⟩ := hcs
    exact ⟨0, 0, fun _ => 0, Nat.zero_le _, fun h => absurd h (Nat.lt_irrefl _), fun i hi => absurd hi (Nat.not_lt_zero _)⟩
  · simp at hcs
    obtain ⟨rfl, rfl, rfl⟩ := hcs
    simp at hmm
    subst hmm
    obtain ⟨S, hS⟩ := Go.Deep.choose_lt (α := Int) (n := n) (p := fun i s => w.cell? (a.add i) = some (.int .i64 s)) (fun i hi => by
      obtain ⟨hc, hx⟩ := hel i (by omega)
      obtain ⟨s, e, _, hs⟩ := DataW.trod_int Try.underlying3 hx
      rw [(List.cons.inj e).1] at hc
      exact ⟨s, hc⟩)
    obtain ⟨kb, ko, sp⟩ := a
    have hsp : 0 < n → sp = none := fun hn => no_spot (a := ⟨kb, ko, sp⟩) (hS 0 hn)
    refine ⟨kb, ko, S, Nat.le_trans hl hm, fun hn => by rw [hsp hn], fun i hi => ?_⟩
    have := hS i hi
    have e := hsp (by omega)
    subst e
    rwa [add_lit] at this

theorem walk (a0 a1 a2 : Option Addr) (len0 cap0 len1 cap1 len2 cap2 : Nat) (a3 a4 : ByteArray) (a5 : Int) (w : World) (w0 : IsStrs w a0 len0) (w1 : IsStrs w a1 len1) (w2 : IsInts w a2 len2) (w3 : a3.size ≤ maxLen) (w4 : a4.size ≤ maxLen) (w5 : (Lit.int .i64 a5).wf = true) :
    Calls Try.prog 5 #[.slice a0 len0 cap0, .slice a1 len1 cap1, .slice a2 len2 cap2, .string a3, .string a4, .int .i64 a5] w fun e w' => e = .returned (.bool true) ∧ Below w.heap.size w w' := by
  obtain ⟨ka, ja, A, hnA, hA, hsA⟩ := w0
  obtain ⟨kb, jb, B, hnB, hB, hsB⟩ := w1
  obtain ⟨kc, jc, C, hnC, hC⟩ := w2
  have hn := bounds_i64 w5
  exact law5 w a0 a1 a2 len0 cap0 len1 cap1 len2 cap2 ka ja kb jb kc jc A B C hnA hnB hnC hA hB hC hsA hsB a3 a4 w3 w4 a5 hn.1 hn.2

/-! ### THE ROW's STEP -/
set_option maxRecDepth 100000 in
theorem lifted (os : Os) (started : os.Started) (H : Type) (enc : TypeId × Value → H) :
    ReturnsInHanded {} Try.checked os 5 .any (Rows.fnCountUndoSpec.pre6 enc Try.prog Try.f5 Rows.fnCountUndoRow.domain false) (Rows.fnCountUndoSpec.post enc Try.prog Try.f5 false true false false) := by
  refine returnsInHanded_of_change (C := Try.checked) own started (by kernel_rfl) Try.func5
    (ChangeSpec.witness6 (enc := enc) (C := Try.checked) false ⟨#[], #[.slice none 0 0, .slice none 0 0, .slice none 0 0, .string ByteArray.empty, .string ByteArray.empty, .int .i64 0], []⟩ 8 (by kernel_rfl) (by kernel_rfl) (by kernel_rfl) (by kernel_rfl)) ?_
  intro W base args ds gs before hval0 hW hcnd _
  have hval : ∀ (j : Nat) t v, Try.f5.params[j]? = some t → args[j]? = some v → Value.okWide Try.prog W .any base t v := hval0
  have hW' := hW
  obtain ⟨p, q, hA0, hV, rfl, hfz, hnd⟩ := hW
  have hA : DataW.TrodAll enc Try.prog W 0 (fun _ => true) true Try.f5.params.toList args.toList ds p := hA0
  rw [Try.params5] at hA hval
  obtain ⟨v0, vs0, d0, ds0, p0, q0, hargs, rfl, rfl, h0, r0⟩ := trodAll_cons hA
  obtain ⟨v1, vs1, d1, ds1, p1, q1, rfl, rfl, rfl, h1, r1⟩ := trodAll_cons r0
  obtain ⟨v2, vs2, d2, ds2, p2, q2, rfl, rfl, rfl, h2, r2⟩ := trodAll_cons r1
  obtain ⟨v3, vs3, d3, ds3, p3, q3, rfl, rfl, rfl, h3, r3⟩ := trodAll_cons r2
  obtain ⟨v4, vs4, d4, ds4, p4, q4, rfl, rfl, rfl, h4, r4⟩ := trodAll_cons r3
  obtain ⟨v5, vs5, d5, ds5, p5, q5, rfl, rfl, rfl, h5, r5⟩ := trodAll_cons r4
  obtain ⟨rfl, rfl, rfl⟩ := trodAll_nil r5
  obtain rfl : args = #[v0, v1, v2, v3, v4, v5] := by cases args; simp_all
  obtain ⟨rfl, rfl⟩ := trodVars_none hV
  obtain ⟨a0, len0, cap0, rfl⟩ := okWide_slice Try.underlying22 (hval 0 22 v0 rfl rfl)
  obtain ⟨a1, len1, cap1, rfl⟩ := okWide_slice Try.underlying22 (hval 1 22 v1 rfl rfl)
  obtain ⟨a2, len2, cap2, rfl⟩ := okWide_slice Try.underlying23 (hval 2 23 v2 rfl rfl)
  obtain ⟨a3, rfl, rfl, rfl, w3⟩ := open_string Try.underlying9 (hval 3 9 v3 rfl rfl) h3
  obtain ⟨a4, rfl, rfl, rfl, w4⟩ := open_string Try.underlying9 (hval 4 9 v4 rfl rfl) h4
  obtain ⟨a5, rfl, rfl, rfl, w5⟩ := open_int Try.underlying3 (hval 5 3 v5 rfl rfl) h5
  have k0 := h0
  have k1 := h1
  have k2 := h2
  have lt0 : ∀ x ∈ p0, x.block < W.heap.size := by obtain ⟨m, hm⟩ := k0; exact DataW.trod_lt m _ _ _ hm
  have lt1 : ∀ x ∈ p1, x.block < W.heap.size := by obtain ⟨m, hm⟩ := k1; exact DataW.trod_lt m _ _ _ hm
  have lt2 : ∀ x ∈ p2, x.block < W.heap.size := by obtain ⟨m, hm⟩ := k2; exact DataW.trod_lt m _ _ _ hm
  have w0 : IsStrs W a0 len0 := by
    obtain ⟨fuel, hf⟩ := h0
    exact opened_strs (cap := cap0) (by simpa [Value.cells] using hf)
  have w1 : IsStrs W a1 len1 := by
    obtain ⟨fuel, hf⟩ := h1
    exact opened_strs (cap := cap1) (by simpa [Value.cells] using hf)
  have w2 : IsInts W a2 len2 := by
    obtain ⟨fuel, hf⟩ := h2
    exact opened_ints (cap := cap2) (by simpa [Value.cells] using hf)
  clear hA0 hval0
  refine (walk a0 a1 a2 len0 cap0 len1 cap1 len2 cap2 a3 a4 a5 W w0 w1 w2 w3 w4 w5).mono fun e W' ⟨he, bel⟩ => ?_
  subst he
  exact ⟨_, rfl, _, _, _, [], _, [], hW', trodAll_mk1 (shut_bool Try.underlying4 _),
    (trodAll_cons_mk (Below.trod laidOut (by kernel_rfl) (of_decide_eq_true (by kernel_rfl)) k0 bel lt0)
      (trodAll_cons_mk (Below.trod laidOut (by kernel_rfl) (of_decide_eq_true (by kernel_rfl)) k1 bel lt1)
        (trodAll_cons_mk (Below.trod laidOut (by kernel_rfl) (of_decide_eq_true (by kernel_rfl)) k2 bel lt2)
          (trodAll_cons_mk (shut_string Try.underlying9 w3) (trodAll_cons_mk (shut_string Try.underlying9 w4) (trodAll_cons_mk (shut_int Try.underlying3 w5) trodAll_mk0)))))), rfl, bel.frame _, fun h => by cases h⟩

theorem over : Rows.fnCountUndoRow.holds Try.pinned (OpenSpec.ofChange Rows.fnCountUndoSpec) :=
  OpenClaim.holds_of_wide 5 Try.f5 rfl rfl rfl rfl rfl rfl rfl ⟨rfl, rfl, rfl, rfl, rfl⟩ rfl rfl rfl rfl rfl (by kernel_rfl) Try.func5 (by kernel_rfl)
    (of_decide_eq_true (by kernel_rfl)) (by unfold Func.isWrapper; first | (rw [if_pos (by decide +kernel)]; kernel_rfl) | (rw [if_neg (by decide +kernel)]; exact ⟨rfl, rfl⟩))
    (fun os started H enc _ => lifted os started H enc)

/-- THE STATEMENT -/
theorem proved : Rows.FnCountUndoSaid := over

end Go.Proofs.Qxb6601879a.fnCountUndo
