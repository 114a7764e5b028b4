import Derived.Test.Qxb6601800aGrp
import Derived.Deep.DeepCutAuto
import Derived.Deep.CutBlock
import Derived.Deep.RegionHeld3
import Derived.Deep.QuietTactic
import Derived.BigQuiet
import Derived.Deep.AppendLies
namespace Go.Proofs.Qxb6601800a
open Go.RowKit Go.Maps

theorem nil43 (w : World) (r : Option Nat) : (binOp .eql 43 (.map r) (.map none)).run Try.prog w = .ok (.bool r.isNone) w := run_eql_map_nil w _ _ _ r Try.underlying43
theorem nil44 (w : World) (r : Option Nat) : (binOp .eql 44 (.map r) (.map none)).run Try.prog w = .ok (.bool r.isNone) w := run_eql_map_nil w _ _ _ r Try.underlying44

set_option maxHeartbeats 400000 in
theorem made40_none (w : World) :
    Calls Try.prog 40 #[.map none] w fun e w' => e = .returned (.map (some w.heap.size)) ∧ w' = w.alloc (.map #[] 0) := by
  have hmm := @run_makeMap Try.prog
  have he := nil43
  go_enter Try.func40, Try.ntmps40
  go_wp2
  go_ret
  exact ⟨rfl, rfl⟩

set_option maxHeartbeats 400000 in
theorem made40_some (w : World) (b : Nat) :
    Calls Try.prog 40 #[.map (some b)] w fun e w' => e = .returned (.map (some b)) ∧ w' = w := by
  have he := nil43
  go_enter Try.func40, Try.ntmps40
  go_wp2
  go_ret
  exact ⟨rfl, rfl⟩

theorem info33 : (Try.prog.info? 33).map (fun i => (i.zero, i.size, i.bytes)) = some (some (.pointer none), 1, 8) := by kernel_rfl

/-- WHAT A CALL OF 'bucket' COMES TO: the key's bucket, an old one or a new one. -/
def Bucketed (w w' : World) (base g N : Nat) (L : List (Key × Nat)) (M : List Nat) (bv : Value) (k : Key) (e : Ending) : Prop :=
  ∃ b L' M' cs' role' bv', e = .returned (ptr b) ∧ Grp w' base g (N + 2) L' M' cs' role' bv' ∧ Turned w w' base g bv ∧ (∀ k, bv'.ownBlock = some k → bv.ownBlock = some k ∨ w.heap.size ≤ k) ∧
    ((have? L k = some b ∧ L' = L ∧ M' = M) ∨ (have? L k = none ∧ w.heap.size ≤ b ∧ L' = L ++ [(k, b)] ∧ M' = M ++ [b]))

/-- What the switch leaves: slot 5 holds the map, slot 6 the string at which the key is looked up there. -/
def Ready (w : World) (base g N q : Nat) (nm vl : ByteArray) (L : List (Key × Nat)) (M : List Nat) (bv m s : Value) (wx : World) : Prop :=
  ∃ b ρ str cs' role', m = .map (some b) ∧ s = .string str ∧ str.size ≤ maxLen ∧ keyFor q nm vl = (ρ, str) ∧ role' b = some ρ ∧ Grp wx base g (N + 1) L M cs' role' bv ∧ Turned w wx base g bv

/-- A store into a map, at the operation, by what its run leaves. -/
theorem wpList_upd {P : Program} {w : World} {ops : Array Oper} {rest : List Oper} {o : Oper} {a : Act} {Q : Exit → Act → World → Prop} {R : World → Prop}
    (hg : o.guard = none) (m x v : Operand) (t : TypeId) (hop : o.op = Op.mapUpdate t m x v) (mv xv vv : Value) (hm : a.eval m = mv) (hx : a.eval x = xv) (hv : a.eval v = vv)
    (hex : ∃ w', (Instr.mapUpdate t mv xv vv).run P w = .ok () w' ∧ R w') (hK : ∀ w', R w' → wpList P ops Q rest (a.put o.dst undef) w') : wpList P ops Q (o :: rest) a w := by
  refine wpList_plain hg fun K' hK' => ?_
  obtain ⟨w', hrun, r1⟩ := hex
  unfold Oper.wp
  simp [execOp, hop, hm, hx, hv, hrun, Result.andThen]
  exact hK' _ _ (hK w' r1)

section
variable {w : World} {base g N : Nat} {L : List (Key × Nat)} {M : List Nat} {cs : Array Value} {role : Nat → Option (Nat × ByteArray)} {bv : Value}

/-- The map of maps is there, and the box that holds the key. -/
def Vals (w : World) (base g N : Nat) (L : List (Key × Nat)) (M : List Nat) (role : Nat → Option (Nat × ByteArray)) (bv : Value) (box : Obj) (wx : World) : Prop :=
  ∃ v cs', cs'[6]? = some (.map (some v)) ∧ Grp wx base g N L M cs' role bv ∧ Turned w wx base g bv ∧ wx.heap[w.heap.size]? = some box

/-- .. and the inner map under its name. -/
def Inner (w : World) (base g N : Nat) (nm : ByteArray) (L : List (Key × Nat)) (M : List Nat) (bv : Value) (box : Obj) (wx : World) : Prop :=
  ∃ v b cs' role', cs'[6]? = some (.map (some v)) ∧ role' b = some (4, nm) ∧ Grp wx base g N L M cs' role' bv ∧ Turned w wx base g bv ∧ wx.heap[w.heap.size]? = some box

theorem Grp.vals_old (h : Grp w base g N L M cs role bv) {v : Nat} (hr : cs[6]? = some (.map (some v))) (box : Obj) : Vals w base g N L M role bv box (w.alloc box) :=
  ⟨v, cs, hr, h.alloc box, (Turned.refl w base g bv).alloc box, heap_alloc_new w box⟩

theorem Grp.vals_new (h : Grp w base g N L M cs role bv) (hr : cs[6]? = some (.map none)) (hbase : base ≤ w.heap.size) (box : Obj) :
    Vals w base g N L M role bv box (((w.setCell ⟨g, 6, none⟩ (.map (some (w.heap.size + 1)))).alloc box).alloc (.map #[] 0)) := by
  have e0 : (w.setCell ⟨g, 6, none⟩ (.map (some (w.heap.size + 1)))).heap.size = w.heap.size := by simp [World.setCell]
  refine ⟨w.heap.size + 1, cs.setIfInBounds 6 (.map (some (w.heap.size + 1))), by rw [Array.getElem?_setIfInBounds, if_pos rfl, if_pos (by rw [h.len]; omega)],
    h.newVals hr (v := w.heap.size + 1) (by omega) (by omega) ?_ ?_ ?_, (((Turned.refl w base g bv).setCell h.base_g _ _).alloc _).alloc _, ?_⟩
  · rw [Below.heap_alloc _ _ _ (by simp [e0]; have := h.glt; omega), Below.heap_alloc _ _ _ (by rw [e0]; exact h.glt)]
    exact heap_setCell_same w g 6 cs 48 _ h.hg
  · have := heap_alloc_new ((w.setCell ⟨g, 6, none⟩ (.map (some (w.heap.size + 1)))).alloc box) (.map #[] 0)
    simpa [e0] using this
  · intro i hi hne
    rw [Below.heap_alloc _ _ _ (by simp [e0]; omega), Below.heap_alloc _ _ _ (by rw [e0]; exact hi)]
    exact Below.heap_setCell _ _ _ _ hne
  · rw [Below.heap_alloc _ _ _ (by simp [e0])]
    have := heap_alloc_new (w.setCell ⟨g, 6, none⟩ (.map (some (w.heap.size + 1)))) box
    simpa [e0] using this

theorem Grp.vbase (h : Grp w base g N L M cs role bv) {v : Nat} (hv : cs[6]? = some (.map (some v))) : base ≤ v := by
  obtain ⟨r, h1, _, h3⟩ := h.vals
  rw [hv] at h1
  cases h1
  exact (h3 v rfl).1
theorem Grp.vlt (h : Grp w base g N L M cs role bv) {v : Nat} (hv : cs[6]? = some (.map (some v))) : v < w.heap.size := by
  obtain ⟨r, h1, _, h3⟩ := h.vals
  rw [hv] at h1
  cases h1
  obtain ⟨_, _, F, h6, _⟩ := h3 v rfl
  exact h6.lt
theorem Grp.fresh (h : Grp w base g N L M cs role bv) {b : Nat} (hb : w.heap.size ≤ b) : role b = none := by
  cases hr : role b with
  | none => rfl
  | some ρ => have := (h.maps b ρ hr).2.lt; omega

/-- The map of kind q is there. -/
theorem Grp.ready_old (h : Grp w base g N L M cs role bv) {q : Nat} (hq : q < 4) {nm vl : ByteArray} (hn : nm.size ≤ maxLen) {b : Nat} (hr : cs[q + 2]? = some (.map (some b))) (o : Obj) :
    Ready w base g N q nm vl L M bv (.map (some b)) (.string nm) ((w.setCell ⟨g, q + 2, none⟩ (.map (some b))).alloc o) := by
  obtain ⟨r, h1, h2⟩ := h.plain q hq
  rw [hr] at h1
  cases h1
  refine ⟨b, (q, ByteArray.empty), nm, cs, role, rfl, rfl, hn, by unfold keyFor; rw [if_neg (by omega)], (h2 b).1 rfl, ((h.rewrite hr).alloc o).mono (Nat.le_succ N), ((Turned.refl w base g bv).setCell h.base_g _ _).alloc o⟩

/-- It is made. -/
theorem Grp.ready_new (h : Grp w base g N L M cs role bv) {q : Nat} (hq : q < 4) {nm vl : ByteArray} (hn : nm.size ≤ maxLen) (hr : cs[q + 2]? = some (.map none)) (hbase : base ≤ w.heap.size) (o : Obj) :
    Ready w base g N q nm vl L M bv (.map (some (w.heap.size + 1))) (.string nm) (((w.setCell ⟨g, q + 2, none⟩ (.map (some (w.heap.size + 1)))).alloc o).alloc (.map #[] 0)) := by
  have e0 : (w.setCell ⟨g, q + 2, none⟩ (.map (some (w.heap.size + 1)))).heap.size = w.heap.size := by simp [World.setCell]
  refine ⟨w.heap.size + 1, (q, ByteArray.empty), nm, _, _, rfl, rfl, hn, by unfold keyFor; rw [if_neg (by omega)], ?_,
    (h.newMap hq hr (b := w.heap.size + 1) (w' := ((w.setCell ⟨g, q + 2, none⟩ (.map (some (w.heap.size + 1)))).alloc o).alloc (.map #[] 0)) (by omega) (by omega) ?_ ?_ ?_).mono (Nat.le_succ N), (((Turned.refl w base g bv).setCell h.base_g _ _).alloc o).alloc _⟩
  · simp
  · rw [Below.heap_alloc _ _ _ (by simp [e0]; have := h.glt; omega), Below.heap_alloc _ _ _ (by rw [e0]; exact h.glt)]
    exact heap_setCell_same w g (q + 2) cs 48 _ h.hg
  · have := heap_alloc_new ((w.setCell ⟨g, q + 2, none⟩ (.map (some (w.heap.size + 1)))).alloc o) (.map #[] 0)
    simpa [e0] using this
  · intro i hi hne
    rw [Below.heap_alloc _ _ _ (by simp [e0]; omega), Below.heap_alloc _ _ _ (by rw [e0]; exact hi)]
    exact Below.heap_setCell _ _ _ _ hne
end

set_option maxHeartbeats 1000000 in
set_option maxRecDepth 100000 in
theorem bucket28 {w : World} {base g N : Nat} {L : List (Key × Nat)} {M : List Nat} {cs : Array Value} {role : Nat → Option (Nat × ByteArray)} {bv : Value} (h : Grp w base g N L M cs role bv)
    (q : Nat) (hq : q ≤ 4) (nm vl : ByteArray) (hnm : nm.size ≤ maxLen) (hvl : vl.size ≤ maxLen) (hN : N + 2 < maxLen) (hM : M.length ≤ 4096) (hbase : base ≤ w.heap.size) :
    Calls Try.prog 28 #[.pointer (some ⟨g, 0, none⟩), .agg #[.int .u8 q, .string nm, .string vl]] w fun e w' =>
      Bucketed w w' base g N L M bv (keyFor q nm vl) e := by
  have hglt := h.glt
  go_enter Try.func28, Try.ntmps28
  go_upto_block 0 with fail
  go_cut [5, 6] (fun m s wx => Ready w base g N q nm vl L M bv m s wx)
  case first =>
    have live := h.live
    rcases (show q = 0 ∨ q = 1 ∨ q = 2 ∨ q = 3 ∨ q = 4 by omega) with rfl | rfl | rfl | rfl | rfl
    · obtain ⟨r, h1, h2⟩ := h.plain 0 (by omega)
      have hc := h.cell h1
      cases r with
      | none =>
        go_wp2_with (first | (go_at_call 40; refine (made40_none _).mono ?_; rintro e w' ⟨rfl, rfl⟩))
        go_meet
        exact h.ready_new (q := 0) (by omega) hnm h1 hbase _
      | some b =>
        go_wp2_with (first | (go_at_call 40; refine (made40_some _ _).mono ?_; rintro e w' ⟨rfl, rfl⟩))
        go_meet
        exact h.ready_old (q := 0) (by omega) hnm h1 _
    · obtain ⟨r, h1, h2⟩ := h.plain 1 (by omega)
      have hc := h.cell h1
      cases r with
      | none =>
        go_wp2_with (first | (go_at_call 40; refine (made40_none _).mono ?_; rintro e w' ⟨rfl, rfl⟩))
        go_meet
        exact h.ready_new (q := 1) (by omega) hnm h1 hbase _
      | some b =>
        go_wp2_with (first | (go_at_call 40; refine (made40_some _ _).mono ?_; rintro e w' ⟨rfl, rfl⟩))
        go_meet
        exact h.ready_old (q := 1) (by omega) hnm h1 _
    · obtain ⟨r, h1, h2⟩ := h.plain 2 (by omega)
      have hc := h.cell h1
      cases r with
      | none =>
        go_wp2_with (first | (go_at_call 40; refine (made40_none _).mono ?_; rintro e w' ⟨rfl, rfl⟩))
        go_meet
        exact h.ready_new (q := 2) (by omega) hnm h1 hbase _
      | some b =>
        go_wp2_with (first | (go_at_call 40; refine (made40_some _ _).mono ?_; rintro e w' ⟨rfl, rfl⟩))
        go_meet
        exact h.ready_old (q := 2) (by omega) hnm h1 _
    · obtain ⟨r, h1, h2⟩ := h.plain 3 (by omega)
      have hc := h.cell h1
      cases r with
      | none =>
        go_wp2_with (first | (go_at_call 40; refine (made40_none _).mono ?_; rintro e w' ⟨rfl, rfl⟩))
        go_meet
        exact h.ready_new (q := 3) (by omega) hnm h1 hbase _
      | some b =>
        go_wp2_with (first | (go_at_call 40; refine (made40_some _ _).mono ?_; rintro e w' ⟨rfl, rfl⟩))
        go_meet
        exact h.ready_old (q := 3) (by omega) hnm h1 _
    · have hmm := @run_makeMap Try.prog
      have he := nil44
      obtain ⟨r, h1, h2, h3⟩ := h.vals
      have hc := h.cell h1
      go_upto_if 74 with fail
      go_cut [] (fun wx => Vals w base g N L M role bv (.cells #[.int .u8 4, .string nm, .string vl] 52) wx)
      case first =>
        cases r with
        | none =>
          go_wp2

          go_meet
          exact h.vals_new h1 hbase _
        | some v =>
          go_wp2

          go_meet
          exact h.vals_old h1 _
      case rest =>
        clear hc h1 h2 h3 live
        obtain ⟨v, cs1, h1, hG, hT, hbox⟩ := hcut
        have hc := hG.cell h1
        have hb1 : wc.cell? ⟨w.heap.size, 1, none⟩ = some (.string nm) := by rw [cell_of_row wc _ 1 _ _ _ hbox]; rfl
        have hb2 : wc.cell? ⟨w.heap.size, 2, none⟩ = some (.string vl) := by rw [cell_of_row wc _ 2 _ _ _ hbox]; rfl
        go_upto_region 19 with fail
        go_cut [] (fun wx => Inner w base g (N + 1) nm L M bv (.cells #[.int .u8 4, .string nm, .string vl] 52) wx)
        case first =>
          obtain ⟨x, hlook, hx⟩ := hG.drew.look44 h1 hnm
          cases x with
          | none =>
            have hW := (hG.alloc (.map #[] 0)).drew
            have hnew : (wc.alloc (.map #[] 0)).drew.heap[wc.heap.size]? = some (.map #[] 0) := heap_alloc_new wc _
            have hno : ∀ b, role b ≠ some (4, nm) := fun b e => by have := (hx b).2 e; cases this
            have hvlt : v < wc.heap.size := hG.vlt h1
            have hrb : role wc.heap.size = none := hG.fresh (Nat.le_refl _)
            obtain ⟨w2, hupd, hG2, hm⟩ := hW.storeNew h1 hnm (by omega) hno hnew (by have := hT.size; omega) hrb (by omega)
            have c6 := hG2.cell h1
            have hbx : w2.heap[w.heap.size]? = some (.cells #[.int .u8 4, .string nm, .string vl] 52) := by
              have hlt : w.heap.size < wc.heap.size := (Array.getElem?_eq_some_iff.1 hbox).1
              have e1 : (wc.alloc (.map #[] 0)).drew.heap[w.heap.size]? = wc.heap[w.heap.size]? := Below.heap_alloc _ _ _ hlt
              rw [turned_other hm (by show _ < (wc.alloc _).heap.size; simp; omega) (fun e => ?_), e1, hbox]
              obtain ⟨es, c, hmm⟩ := turned_is hm
              rw [← e, e1, hbox] at hmm
              cases hmm
            have c1 : w2.cell? ⟨w.heap.size, 1, none⟩ = some (.string nm) := by rw [cell_of_row w2 _ 1 _ _ _ hbx]; rfl
            have fin : Inner w base g (N + 1) nm L M bv (.cells #[.int .u8 4, .string nm, .string vl] 52) w2 :=
              ⟨v, wc.heap.size, cs1, _, h1, by simp, hG2, (hT.alloc (.map #[] 0)).drew.map hm (hG.vbase h1), hbx⟩
            clear hG2 hm hW hnew hG hT hbox hno hrb hbx
            go_region_held3 (fun w' => w'.cell? ⟨g, 6, none⟩ = some (.map (some v)) ∧ w'.cell? ⟨w.heap.size, 1, none⟩ = some (.string nm))
              (first | go_keep | exact ⟨c6, c1⟩) (first | (go_at_call 40; refine (made40_none _).mono ?_; rintro e w' ⟨rfl, rfl⟩))
            go_wp2_with fail
            go_meet
            exact fin
          | some b =>
            have hrb : role b = some (4, nm) := (hx b).1 rfl
            obtain ⟨w2, hupd, hG2, hm⟩ := hG.drew.storeOld h1 hnm (by omega) hrb
            have c6 := hG2.cell h1
            have hbx : w2.heap[w.heap.size]? = some (.cells #[.int .u8 4, .string nm, .string vl] 52) := by
              have hlt : w.heap.size < wc.heap.size := (Array.getElem?_eq_some_iff.1 hbox).1
              rw [turned_other hm hlt (fun e => ?_)]
              · exact hbox
              · obtain ⟨es, c, hmm⟩ := turned_is hm
                have hmm' : wc.heap[v]? = some (.map es c) := hmm
                rw [← e, hbox] at hmm'
                cases hmm'
            have c1 : w2.cell? ⟨w.heap.size, 1, none⟩ = some (.string nm) := by rw [cell_of_row w2 _ 1 _ _ _ hbx]; rfl
            have fin : Inner w base g (N + 1) nm L M bv (.cells #[.int .u8 4, .string nm, .string vl] 52) w2 :=
              ⟨v, b, cs1, role, h1, hrb, hG2, hT.drew.map hm (hG.vbase h1), hbx⟩
            clear hG2 hm hG hT hbox hrb hbx hx
            go_region_held3 (fun w' => w'.cell? ⟨g, 6, none⟩ = some (.map (some v)) ∧ w'.cell? ⟨w.heap.size, 1, none⟩ = some (.string nm))
              (first | go_keep | exact ⟨c6, c1⟩) (first | (go_at_call 40; refine (made40_some _ _).mono ?_; rintro e w' ⟨rfl, rfl⟩))
            go_wp2_with fail
            go_meet
            exact fin
        case rest =>
          clear hc hb1 hb2 hG hT hbox h1
          obtain ⟨v, b, cs2, role2, h1, hrb, hG, hT, hbox⟩ := hcut
          have hc := hG.cell h1
          have hb1 : wc.cell? ⟨w.heap.size, 1, none⟩ = some (.string nm) := by rw [cell_of_row wc _ 1 _ _ _ hbox]; rfl
          have hb2 : wc.cell? ⟨w.heap.size, 2, none⟩ = some (.string vl) := by rw [cell_of_row wc _ 2 _ _ _ hbox]; rfl
          obtain ⟨x, hlook, hx⟩ := hG.drew.look44 h1 hnm
          obtain rfl := (hx b).2 hrb
          have fin : Ready w base g N 4 nm vl L M bv (.map (some b)) (.string vl) wc.drew := ⟨b, (4, nm), vl, cs2, role2, rfl, rfl, hvl, rfl, hrb, hG.drew, hT.drew⟩
          clear hG hT hx hrb
          go_upto_region 20 with fail
          go_region
          go_wp2_with fail
          go_meet
          exact fin
  case rest =>
    obtain ⟨b, ρ, str, cs1, role1, rfl, rfl, hstr, hkey, hrb, hG, hT⟩ := hcut
    have hlook := hG.look43 hrb hstr
    rw [← hkey] at hlook
    cases hw : have? L (keyFor q nm vl) with
    | some b' =>
      rw [want_some hw] at hlook
      unfold ptr at hlook
      have fin : Bucketed w wc base g N L M bv (keyFor q nm vl) (.returned (ptr b')) :=
        ⟨b', L, M, cs1, role1, bv, rfl, hG.mono (Nat.le_succ _), hT, fun _ hk => .inl hk, .inl ⟨hw, rfl, rfl⟩⟩
      clear hG hT hrb
      have HW : Hid (have? L (keyFor q nm vl) = some b') := hw
      clear hw hkey
      go_wp2
      go_ret
      exact fin
    | none =>
      rw [want_none hw] at hlook
      have hst := fun c => (hG.alloc (.cells c 72)).store43 hrb hstr (by omega) (by rw [← hkey]; exact hw) (nb := wc.heap.size) ⟨c, heap_alloc_new wc _⟩
      have HK : Hid (keyFor q nm vl = (ρ, str)) := hkey
      have HW : Hid (have? L (keyFor q nm vl) = none) := hw
      clear hw hkey
      obtain ⟨i0, hi0, hz0, hz1, hz2⟩ := info_parts info33
      go_wp2_with (first
        | (at_mapUpdate; refine wpList_upd rfl _ _ _ _ rfl (.map (some b)) (.string str) (ptr wc.heap.size) rfl rfl rfl (hst _) ?_; rintro w2 ⟨hG2, hm2⟩; have c9 := hG2.cell hG2.bk; have f9 := hG2.live 9)
        | (at_builtin; refine wpList_append_lies _ (by rfl) _ _ 32 (by rfl) base 33 i0 (.pointer none) 1 8 Try.underlying32 hi0 hz0 hz1 hz2 rfl (by decide) bv M.length (M.map ptr) (by rfl) (hG2.row.alloc _) ⟨w2.heap.size, 0, none⟩ 1 1 [ptr wc.heap.size] (by rfl) (by rfl) (cell_one_new _ _ _) (by simp [ptr, Value.oneCell']) (by omega) (by unfold maxLen; omega) (by omega) (by have := hG2.glt; have := hG2.base_g; simp; omega) (w2.heap.size + 1) (by simp) ?_
           intro g' cap w3 hown' hgrow hat hlt
           have c9' : w3.cell? ⟨g, 9, none⟩ = some bv := (hgrow.cell_far _ (by have := hG2.glt; simp; omega) (fun e => hG2.g_row e.symm)).trans ((hG2.alloc _).cell hG2.bk)
           have f9' : w3.frozen? ⟨g, 9, none⟩ = false := (hgrow.frozen_far _ (by have := hG2.glt; simp; omega) (fun e => hG2.g_row e.symm)).trans ((hG2.alloc _).live 9)))
      go_ret
      refine ⟨wc.heap.size, L ++ [((ρ, str), wc.heap.size)], M ++ [wc.heap.size], _, role1, _, rfl, (hG2.alloc _).push hown' hgrow, ?_, ?_, .inr ⟨HW.out, hT.size, by rw [HK.out], rfl⟩⟩
      · have t1 : Turned w w2 base g bv := (hT.alloc _).map hm2 (hG.maps b ρ hrb).1
        exact ((t1.alloc _).append hgrow (fun k hk => (hG2.row.lt k hk).1)).setCell hG2.base_g 9 _
      · intro k hk
        rcases hat with hat | hat
        · exact .inl (by rw [hat]; exact hk)
        · simp [Value.ownBlock] at hk
          have h1 := hm2.grown.size
          have h2 := hT.size
          simp at h1
          exact .inr (by omega)

end Go.Proofs.Qxb6601800a
