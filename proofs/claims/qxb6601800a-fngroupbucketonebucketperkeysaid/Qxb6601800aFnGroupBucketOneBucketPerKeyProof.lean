/- The proof of 'Rows.FnGroupBucketOneBucketPerKeySaid': the frame after the skeleton tool's, turned to a slice of structs; the walk is 'group9'. -/
import Derived.Test.Qxb6601800aRows
import Derived.Test.Qxb6601800aLaw
import Derived.WalkKit
import Derived.ProofKit
import Derived.OpenShut
import Derived.ShutString
import Derived.ChangeOld
import Derived.Below
import Derived.Deep.Slices
import Derived.Deep.Strs
namespace Go.Proofs.Qxb6601800a.fnGroupBucketOneBucketPerKey
open Go.ChangeShapes Go.WideShapes Go.ChangeAt Go.RowKit
open Go.ChangeMaps (open_string shut_string)
set_option linter.unusedVariables false

theorem own : ownKnob Try.prog.godebug = none := by kernel_rfl
theorem laidOut : laidOutB Try.prog = true := by kernel_rfl
theorem cells29 : Try.prog.cellsOf 29 = 3 := by kernel_rfl

/-- What the walk is told of a slice of keys that came in. -/
def IsKeys (w : World) (oa : Option Addr) (n cap : Nat) : Prop :=
  ∃ (kb ko : Nat) (X : Nat → K3), n ≤ cap ∧ cap ≤ maxLen ∧ (0 < n → oa = some ⟨kb, ko, none⟩) ∧ (oa = none → n = 0 ∧ cap = 0) ∧
    (∀ i, i < n → w.cell? ⟨kb, ko + i * 3, none⟩ = some (.int .u8 (X i).1)) ∧ (∀ i, i < n → w.cell? ⟨kb, ko + i * 3 + 1, none⟩ = some (.string (X i).2.1)) ∧
    (∀ i, i < n → w.cell? ⟨kb, ko + i * 3 + 2, none⟩ = some (.string (X i).2.2)) ∧
    (∀ i, i < n → (X i).1 ≤ 255) ∧ (∀ i, i < n → (X i).2.1.size ≤ maxLen) ∧ (∀ i, i < n → (X i).2.2.size ≤ maxLen)

theorem walk (a0 : Option Addr) (len0 cap0 : Nat) (w : World) (w0 : IsKeys w a0 len0 cap0) :
    Calls Try.prog 9 #[.slice a0 len0 cap0] w fun e w' => e = .returned (.bool true) ∧ Below w.heap.size w w' := by
  obtain ⟨kb, ko, X, h1, h2, h3, h4, h5, h6, h7, h8, h9, h10⟩ := w0
  exact group9 w a0 kb ko len0 cap0 X h1 h2 h3 h4 h5 h6 h7 h8 h9 h10

theorem three {cs : List Value} (h : cs.length = 3) : ∃ c0 c1 c2, cs = [c0, c1, c2] := by
  match cs, h with
  | [c0, c1, c2], _ => exact ⟨c0, c1, c2, rfl⟩

set_option maxRecDepth 100000 in
/-- One key's three cells, out of its reading. -/
theorem key_of {H : Type} {enc : TypeId × Value → H} {w : World} {base : Nat} {spare : Nat → Bool} {held : Bool} {n : Nat} {a : Addr} {cs : List Value} {x : DataW H × List MemPlace}
    (hc : w.cells? base a 3 = some cs) (hx : DataW.trod enc Try.prog w base spare held n 29 cs = some x) :
    ∃ k : K3, w.cell? (a.add 0) = some (.int .u8 k.1) ∧ w.cell? (a.add 1) = some (.string k.2.1) ∧ w.cell? (a.add 2) = some (.string k.2.2) ∧ k.1 ≤ 255 ∧ k.2.1.size ≤ maxLen ∧ k.2.2.size ≤ maxLen := by
  obtain ⟨_, hl, hcell⟩ := World.cells?_some hc
  obtain ⟨c0, c1, c2, rfl⟩ := three hl
  obtain ⟨y0, y1, y2, m, _, _, h0, h1, h2⟩ := Go.Deep.trod_struct3 Try.underlying29 hx
  obtain ⟨q, e0, _, wq⟩ := DataW.trod_int Try.underlying5 h0
  obtain ⟨nm, e1, _, w1⟩ := DataW.trod_string Try.underlying9 h1
  obtain ⟨vl, e2, _, w2⟩ := DataW.trod_string Try.underlying9 h2
  have c5 : Try.prog.cellsOf 5 = 1 := by kernel_rfl
  have c9 : Try.prog.cellsOf 9 = 1 := by kernel_rfl
  rw [c5] at e0
  rw [c9] at e1 e2
  have e0' : c0 = .int .u8 q := (List.cons.inj e0).1
  have e1' : c1 = .string nm := (List.cons.inj e1).1
  have e2' : c2 = .string vl := (List.cons.inj e2).1
  subst e0' e1' e2'
  have hq := bounds_u8 wq
  refine ⟨(q.toNat, nm, vl), ?_, ?_, ?_, by simp; omega, w1, w2⟩
  · rw [hcell 0 (by omega), show ((q.toNat : Nat) : Int) = q by omega]; rfl
  · rw [hcell 1 (by omega)]; rfl
  · rw [hcell 2 (by omega)]; rfl

/-- A slice of keys that came in, opened. -/
theorem opened {H : Type} {enc : TypeId × Value → H} {w : World} {oa : Option Addr} {n cap fuel : Nat} {x : DataW H × List MemPlace}
    (h : DataW.trod enc Try.prog w 0 (fun _ => true) true fuel 26 [.slice oa n cap] = some x) : IsKeys w oa n cap := by
  rcases Go.Deep.open_slice Try.underlying26 h with ⟨hcs, _⟩ | ⟨a, len, cp, m, fl, D, Pl, hcs, _, hl, hm, hmm, _, hel⟩
  · simp at hcs
    obtain ⟨rfl, rfl, rfl⟩ := hcs
    exact ⟨0, 0, fun _ => (0, ByteArray.empty, ByteArray.empty), Nat.le_refl _, Nat.zero_le _, fun h => absurd h (Nat.lt_irrefl _), fun _ => ⟨rfl, rfl⟩,
      fun i hi => absurd hi (Nat.not_lt_zero _), fun i hi => absurd hi (Nat.not_lt_zero _), fun i hi => absurd hi (Nat.not_lt_zero _), fun i hi => absurd hi (Nat.not_lt_zero _), fun i hi => absurd hi (Nat.not_lt_zero _), fun i hi => absurd hi (Nat.not_lt_zero _)⟩
  · simp at hcs
    obtain ⟨rfl, rfl, rfl⟩ := hcs
    simp at hmm
    subst hmm
    rw [cells29] at hel
    obtain ⟨X, hX⟩ := Go.Deep.choose_lt (α := K3) (n := n) (p := fun i k => w.cell? ((a.add (i * 3)).add 0) = some (.int .u8 k.1) ∧ w.cell? ((a.add (i * 3)).add 1) = some (.string k.2.1) ∧ w.cell? ((a.add (i * 3)).add 2) = some (.string k.2.2) ∧ k.1 ≤ 255 ∧ k.2.1.size ≤ maxLen ∧ k.2.2.size ≤ maxLen)
      (fun i hi => by
        obtain ⟨cs', hc, hx⟩ := hel i (by omega)
        exact key_of hc hx)
    have hsp : 0 < n → a.spot = none := by
      intro hn
      have h0 := (hX 0 hn).1
      simp [Addr.add] at h0
      cases hs : a.spot with
      | none => rfl
      | some s =>
        unfold World.cell? at h0
        split at h0
        · rw [hs] at h0; simp at h0
        · cases h0
    obtain ⟨kb, ko, sp⟩ := a
    have key : ∀ i, i < n → ∀ r, ((⟨kb, ko, sp⟩ : Addr).add (i * 3)).add r = ⟨kb, ko + i * 3 + r, none⟩ := by
      intro i hi r
      have : sp = none := hsp (by omega)
      subst this
      rw [add_lit, add_lit]
    refine ⟨kb, ko, X, hl, hm, (fun hn => by have : sp = none := hsp hn; rw [this]), (fun e => by cases e), fun i hi => ?_, fun i hi => ?_, fun i hi => ?_, fun i hi => (hX i hi).2.2.2.1, fun i hi => (hX i hi).2.2.2.2.1, fun i hi => (hX i hi).2.2.2.2.2⟩
    · have := (hX i hi).1; rwa [key i hi 0] at this
    · have := (hX i hi).2.1; rwa [key i hi 1] at this
    · have := (hX i hi).2.2.1; rwa [key i hi 2] at this

/-! ### THE ROW's STEP -/
set_option maxRecDepth 100000 in
theorem lifted (os : Os) (started : os.Started) (H : Type) (enc : TypeId × Value → H) :
    ReturnsInHanded {} Try.checked os 9 .any (Rows.fnGroupBucketOneBucketPerKeySpec.pre6 enc Try.prog Try.f9 Rows.fnGroupBucketOneBucketPerKeyRow.domain false) (Rows.fnGroupBucketOneBucketPerKeySpec.post enc Try.prog Try.f9 false true false false) := by
  refine returnsInHanded_of_change (C := Try.checked) own started (by kernel_rfl) Try.func9
    (ChangeSpec.witness6 (enc := enc) (C := Try.checked) false ⟨#[], #[.slice none 0 0], []⟩ 8 (by kernel_rfl) (by kernel_rfl) (by kernel_rfl) (by kernel_rfl)) ?_
  intro W base args ds gs before hval0 hW hcnd _
  have hval : ∀ (j : Nat) t v, Try.f9.params[j]? = some t → args[j]? = some v → Value.okWide Try.prog W .any base t v := hval0
  have hW' := hW
  obtain ⟨p, q, hA0, hV, rfl, hfz, hnd⟩ := hW
  have hA : DataW.TrodAll enc Try.prog W 0 (fun _ => true) true Try.f9.params.toList args.toList ds p := hA0
  rw [Try.params9] at hA hval
  obtain ⟨v0, vs0, d0, ds0, p0, q0, hargs, rfl, rfl, h0, r0⟩ := trodAll_cons hA
  obtain ⟨rfl, rfl, rfl⟩ := trodAll_nil r0
  obtain rfl : args = #[v0] := by cases args; simp_all
  obtain ⟨rfl, rfl⟩ := trodVars_none hV
  obtain ⟨a0, len0, cap0, rfl⟩ := okWide_slice Try.underlying26 (hval 0 26 v0 rfl rfl)
  have k0 := h0
  have lt0 : ∀ x ∈ p0, x.block < W.heap.size := by obtain ⟨m, hm⟩ := k0; exact DataW.trod_lt m _ _ _ hm
  have w0 : IsKeys W a0 len0 cap0 := by
    obtain ⟨fuel, hf⟩ := h0
    exact opened (by simpa [Value.cells] using hf)
  clear hA0 hval0
  refine (walk a0 len0 cap0 W w0).mono fun e W' ⟨he, bel⟩ => ?_
  subst he
  exact ⟨_, rfl, _, _, _, [], _, [], hW', trodAll_mk1 (shut_bool Try.underlying4 _), (trodAll_cons_mk (Below.trod laidOut (by kernel_rfl) (of_decide_eq_true (by kernel_rfl)) k0 bel lt0) trodAll_mk0), rfl, bel.frame _, fun h => by cases h⟩

theorem over : Rows.fnGroupBucketOneBucketPerKeyRow.holds Try.pinned (OpenSpec.ofChange Rows.fnGroupBucketOneBucketPerKeySpec) :=
  OpenClaim.holds_of_wide 9 Try.f9 rfl rfl rfl rfl rfl rfl rfl ⟨rfl, rfl, rfl, rfl, rfl⟩ rfl rfl rfl rfl rfl (by kernel_rfl) Try.func9 (by kernel_rfl)
    (of_decide_eq_true (by kernel_rfl)) (by unfold Func.isWrapper; first | (rw [if_pos (by decide +kernel)]; kernel_rfl) | (rw [if_neg (by decide +kernel)]; exact ⟨rfl, rfl⟩))
    (fun os started H enc _ => lifted os started H enc)

/-- THE STATEMENT -/
theorem proved : Rows.FnGroupBucketOneBucketPerKeySaid := over

end Go.Proofs.Qxb6601800a.fnGroupBucketOneBucketPerKey
