import Derived.Test.Qxb6601879aModel
import Derived.Deep.LoopGhost
import Derived.Deep.RegionLaw
import Derived.Deep.DrawnRows
/-! The walk of zzModelOf. -/
namespace Go.Proofs.Qxb6601879a
open Go.RowKit Go.Maps
attribute [local go_sem ↓] Go.wp_at_zero Go.wp_at_succ

theorem info48 : (Try.prog.info? 48).map (fun i => (i.zero, i.size, i.bytes)) = some (some (.agg #[.string ByteArray.empty, .bool false, .slice none 0 0]), 3, 48) := by kernel_rfl
theorem info50 : (Try.prog.info? 50).map (fun i => (i.zero, i.size, i.bytes)) = some (some (.agg #[.string ByteArray.empty, .int .i64 0]), 2, 24) := by kernel_rfl

/-- The model after i pairs, in memory. -/
def ModelAt (w : World) (A B : Nat → ByteArray) (C : Nat → Int) (i : Nat) (sv : Value) (wr : World) : Prop :=
  ∃ (Q : List (ByteArray × Pairs × Value)) (o : Option Addr) (c : Nat), sv = .slice o Q.length c ∧ StRel wr w.heap.size (.slice o Q.length c) Q ∧ rowsOf Q = rowsTo A B C i ∧ Q.length ≤ i ∧ (∀ q ∈ Q, q.2.1.length ≤ i) ∧ Below w.heap.size w wr

theorem ModelAt.start (w : World) (A B : Nat → ByteArray) (C : Nat → Int) : ModelAt w A B C 0 (.slice none 0 0) w := by
  refine ⟨[], none, 0, rfl, ⟨World.ownsRow_nil _ _ _ _, ?_, ?_⟩, rfl, Nat.le_refl _, ?_, Below.refl _ _⟩
  · intro q hq; cases hq
  · intro i j q q' h; simp at h
  · intro q hq; cases hq

/-- The key's row is there, at place o. -/
def RowReady (w : World) (R : Rws) (i : Nat) (a : ByteArray) (sv ov : Value) (wx : World) : Prop :=
  ∃ (Q : List (ByteArray × Pairs × Value)) (oa : Option Addr) (c o : Nat) (ps : Pairs) (pv : Value), sv = .slice oa Q.length c ∧ ov = .int .i64 o ∧ StRel wx w.heap.size (.slice oa Q.length c) Q ∧ Q[o]? = some (a, ps, pv) ∧
    ps = (get R a).getD [] ∧ (∀ ps' pv', rowsOf (Q.set o (a, ps', pv')) = put R a ps') ∧ Q.length ≤ i + 1 ∧ (∀ q ∈ Q, q.2.1.length ≤ i) ∧ Below w.heap.size w wx

theorem RowReady.new {w wr w3 : World} {R : Rws} {i : Nat} {a : ByteArray} {Q : List (ByteArray × Pairs × Value)} {os : Option Addr} {cs g8 cap8 : Nat} {x : Array Value} {t : TypeId}
    (hS : StRel wr w.heap.size (.slice os Q.length cs) Q) (hQ : Q.length ≤ i) (hQ2 : ∀ q ∈ Q, q.2.1.length ≤ i) (hbel : Below w.heap.size w wr) (hR : rowsOf Q = R) (hix : ixOf Q a = none)
    (hgrow : (wr.alloc (.cells x t)).grownBy w3 (Value.slice os Q.length cs).ownBlock) (hown : w3.ownsRow w.heap.size 48 3 (.slice (some ⟨g8, 0, none⟩) (Q.length + 1) cap8) (Q.length + 1) (flatQ Q ++ row3 (a, [], .slice none 0 0))) :
    RowReady w R i a (.slice (some ⟨g8, 0, none⟩) (Q.length + 1) cap8) (.int .i64 Q.length) w3 := by
  have hS3 := (hS.alloc (.cells x t)).addRow hgrow hown
  have hixR : ixOf R a = none := by rw [← hR, ix_rowsOf]; exact hix
  refine ⟨Q ++ [(a, [], .slice none 0 0)], some ⟨g8, 0, none⟩, cap8, Q.length, [], .slice none 0 0, by simp, rfl, by simpa using hS3, by simp, by rw [ix_none hixR]; rfl, fun ps' pv' => ?_, by simp; omega, ?_, ?_⟩
  · rw [rowsOf_set, put_of_none hixR, ← hR]
    simp [rowsOf]
  · intro q hq
    rcases List.mem_append.1 hq with hq | hq
    · exact hQ2 q hq
    · rw [List.mem_singleton.1 hq]; simp
  · exact (hbel.alloc hbel.size _).grown hgrow (by have := hbel.size; simp; omega) (fun k hk => (hS.row.lt k hk).1)

theorem length_put_le {β : Type} (l : List (ByteArray × β)) (k : ByteArray) (v : β) : (put l k v).length ≤ l.length + 1 := by
  rw [length_put]; split <;> omega

theorem ModelAt.push {w wd w3 : World} {A B : Nat → ByteArray} {C : Nat → Int} {i o gs c1 gp capp : Nat} {Q : List (ByteArray × Pairs × Value)} {a b : ByteArray} {v : Int} {ps : Pairs} {pv : Value} {x : Array Value}
    (hS : StRel wd w.heap.size (.slice (some ⟨gs, 0, none⟩) Q.length c1) Q) (hq : Q[o]? = some (a, ps, pv)) (hps : ps = (get (rowsTo A B C i) a).getD []) (hput : ∀ ps' pv', rowsOf (Q.set o (a, ps', pv')) = put (rowsTo A B C i) a ps')
    (hix : ixOf ps b = none) (hQ : Q.length ≤ i + 1) (hQ2 : ∀ q ∈ Q, q.2.1.length ≤ i) (hbel : Below w.heap.size w wd) (hA : A i = a) (hB : B i = b) (hC : C i = v)
    (hgrow : (wd.alloc (.cells x 50)).drew.grownBy w3 pv.ownBlock) (hown : w3.ownsRow w.heap.size 50 2 (.slice (some ⟨gp, 0, none⟩) (ps.length + 1) capp) (ps.length + 1) (flatP ps ++ pair2 (b, v))) (hat : pv.ownBlock = some gp ∨ gp = wd.heap.size + 1) :
    ModelAt w A B C (i + 1) (.slice (some ⟨gs, 0, none⟩) Q.length c1) (w3.setCell ⟨gs, o * 3 + 2, none⟩ (.slice (some ⟨gp, 0, none⟩) (ps.length + 1) capp)) := by
  have hlen : (ps ++ [(b, v)]).length = ps.length + 1 := by simp
  have hflat : flatP (ps ++ [(b, v)]) = flatP ps ++ pair2 (b, v) := by simp [flatP]
  have hpl := hQ2 _ (List.mem_of_getElem? hq)
  have hSa : StRel (wd.alloc (.cells x 50)).drew w.heap.size (.slice (some ⟨gs, 0, none⟩) Q.length c1) Q := (hS.alloc _).drew
  have hS3 := hSa.setRow (ps' := ps ++ [(b, v)]) (pv' := .slice (some ⟨gp, 0, none⟩) (ps.length + 1) capp) hq rfl hgrow (by rw [hlen, hflat]; exact hown) (fun k hk => by
    rcases hat with h | h
    · left; rw [h]; exact hk
    · right
      have e : gp = k := by simpa [Value.ownBlock] using hk
      show (wd.alloc _).heap.size ≤ k
      simp; omega)
  refine ⟨Q.set o (a, ps ++ [(b, v)], .slice (some ⟨gp, 0, none⟩) (ps.length + 1) capp), some ⟨gs, 0, none⟩, c1, by simp, by simpa using hS3, ?_, by simpa using hQ, ?_, ?_⟩
  · rw [hput, rowsTo, step, hA, hB, hC, ← hps, put_of_none hix]
  · intro q hq'
    rcases List.mem_or_eq_of_mem_set hq' with h | h
    · exact Nat.le_succ_of_le (hQ2 q h)
    · rw [h]; simp at hpl ⊢; omega
  · have hgs : w.heap.size ≤ gs := (hS.row.lt gs rfl).1
    have hb1 : Below w.heap.size w (wd.alloc (.cells x 50)).drew := (hbel.alloc hbel.size _).drew
    refine (hb1.grown hgrow (by show _ ≤ (wd.alloc _).heap.size; have := hbel.size; simp; omega) (fun k hk => ((hS.prs _ (List.mem_of_getElem? hq)).lt k hk).1)).setCell hgs _

theorem ModelAt.setAt {w wd : World} {A B : Nat → ByteArray} {C : Nat → Int} {i o gs c1 gp capp j : Nat} {Q : List (ByteArray × Pairs × Value)} {a b : ByteArray} {v n0 : Int} {ps : Pairs}
    (hS : StRel wd w.heap.size (.slice (some ⟨gs, 0, none⟩) Q.length c1) Q) (hq : Q[o]? = some (a, ps, .slice (some ⟨gp, 0, none⟩) ps.length capp)) (hps : ps = (get (rowsTo A B C i) a).getD []) (hput : ∀ ps' pv', rowsOf (Q.set o (a, ps', pv')) = put (rowsTo A B C i) a ps')
    (hix : ixOf ps b = some j) (hj : ps[j]? = some (b, n0)) (hQ : Q.length ≤ i + 1) (hQ2 : ∀ q ∈ Q, q.2.1.length ≤ i) (hbel : Below w.heap.size w wd) (hgp : w.heap.size ≤ gp) (hA : A i = a) (hB : B i = b) (hC : C i = v) :
    ModelAt w A B C (i + 1) (.slice (some ⟨gs, 0, none⟩) Q.length c1) (wd.setCell ⟨gp, j * 2 + 1, none⟩ (.int .i64 v)) := by
  have hpl := hQ2 _ (List.mem_of_getElem? hq)
  have hS3 := hS.setN hq rfl hj v
  refine ⟨Q.set o (a, ps.set j (b, v), .slice (some ⟨gp, 0, none⟩) ps.length capp), some ⟨gs, 0, none⟩, c1, by simp, by simpa using hS3, ?_, by simpa using hQ, ?_, hbel.setCell hgp _⟩
  · rw [hput, rowsTo, step, hA, hB, hC, ← hps, put_of_ix hix]
  · intro q hq'
    rcases List.mem_or_eq_of_mem_set hq' with h | h
    · exact Nat.le_succ_of_le (hQ2 q h)
    · rw [h]; simp at hpl ⊢; omega

set_option maxHeartbeats 1000000 in
set_option maxRecDepth 100000 in
theorem model22 (w : World) (oA oB oC : Option Addr) (n cA cB cC ka ja kb jb kc jc : Nat) (A B : Nat → ByteArray) (C : Nat → Int) (hn : n ≤ 1048576) (hA : StrAt w oA n ka ja A) (hB : StrAt w oB n kb jb B) (hC : IntAt w oC n kc jc C) :
    Calls Try.prog 22 #[.slice oA n cA, .slice oB n cB, .slice oC n cC, .slice none 0 0, .slice none 0 0] w fun e w' => ∃ sv, e = .returned sv ∧ ModelAt w A B C n sv w' := by
  go_enter Try.func22, Try.ntmps22
  go_upto_block 0 with fail
  go_cut [11] (fun sv wx => ModelAt w A B C n sv wx)
  case first =>
    go_wp2_with fail
    go_loopw [11, 12] (fun sv q wr => ∃ i : Nat, q = .int .i64 i ∧ i ≤ n ∧ ModelAt w A B C i sv wr) (fun _ q _ => n - (intOf q).toNat)
    case atStart => exact ⟨0, rfl, Nat.zero_le _, ModelAt.start w A B C⟩
    case round =>
      obtain ⟨i, rfl, hi, Q, os, cs, rfl, hS, hR, hQ, hQ2, hbel⟩ := hrel
      have HR : Hid _ := hR
      clear hR
      by_cases hlt : i < n
      · have hcb := hB.2 i hlt
        have hcc := hC.2 i hlt
        have hlb := World.block_lt_of_cell? w _ hcb
        have hlc := World.block_lt_of_cell? w _ hcc
        have dA := (hA.below hbel).2 i hlt
        have dB := (hB.below hbel).2 i hlt
        have dC := (hC.below hbel).2 i hlt
        obtain rfl := hA.1 (by omega)
        obtain rfl := hB.1 (by omega)
        obtain rfl := hC.1 (by omega)
        have hiI : (i : Int) < (n : Int) := by omega
        generalize hAi : A i = a at dA
        generalize hBi : B i = b at dB hcb
        generalize hCi : C i = v at dC hcc
        have HAi : Hid _ := hAi
        have HBi : Hid _ := hBi
        have HCi : Hid _ := hCi
        clear hA hB hC hAi hBi hCi
        obtain ⟨z, hz⟩ : ∃ z, z = ixI (ixOf Q a) := ⟨_, rfl⟩
        have HZ : Hid _ := hz
        clear hz
        go_upto_if 30 with (go_at_call 23; refine (find23 hS.row (by unfold maxLen; omega) _).mono ?_; rintro e w' ⟨rfl, hw⟩; obtain rfl : wr = w' := hw.symm; rw [← HZ.out])
        go_cut [11, 13] (fun sv ov wx => RowReady w (rowsTo A B C i) i a sv ov wx)
        case first =>
          have hbase := hbel.size
          cases hix : ixOf Q a with
          | some o =>
            have e := HZ.out
            rw [hix] at e
            obtain rfl : z = (o : Int) := e
            obtain ⟨⟨ps, pv⟩, hq, hget⟩ := ix_some hix
            have fin : RowReady w (rowsTo A B C i) i a (.slice os Q.length cs) (.int .i64 o) wr := by
              have hix' : ixOf (rowsTo A B C i) a = some o := by rw [← HR.out, ix_rowsOf]; exact hix
              obtain ⟨ps', h1, h2⟩ := ix_some hix'
              rw [← HR.out, rowsOf_get hq] at h1
              cases h1
              refine ⟨Q, os, cs, o, ps, pv, rfl, rfl, hS, hq, by rw [h2]; rfl, fun ps' pv' => ?_, by omega, hQ2, hbel⟩
              rw [rowsOf_set, HR.out, put_of_ix hix']
            clear hS hQ2 hbel hget hq hix
            go_wp2
            go_meet
            exact fin
          | none =>
            have e := HZ.out
            rw [hix] at e
            obtain rfl : z = -1 := e
            obtain ⟨i0, hi0, hz0, hz1, hz2⟩ := info_parts info48
            go_wp2_with (first
              | (at_builtin; refine wpList_append_lies _ (by rfl) _ _ 42 (by rfl) w.heap.size 48 i0 _ 3 48 Try.underlying42 hi0 hz0 hz1 hz2 rfl (by decide) (.slice os Q.length cs) Q.length (flatQ Q) (by rfl) (hS.row.alloc _) ⟨wr.heap.size, 0, none⟩ 1 1 (row3 (a, [], .slice none 0 0)) (by rfl) (by rfl) (World.news_of_block (cs := #[.string a, .bool false, .slice none 0 0]) (t := 48) (fr := (0, 0)) (heap_alloc_new wr _)) (by simp [row3, Value.oneCell']) (by omega) (by unfold maxLen; omega) (by omega) (by simp; omega) (wr.heap.size + 1) (by simp) ?_
                 intro g8 cap8 w3 hown8 hgrow8 hat8 hlt8))
            have fin := RowReady.new hS hQ hQ2 hbel HR.out hix hgrow8 hown8
            go_meet
            exact fin
        case rest =>
        clear hS hQ hQ2 hbel HZ dA dB dC
        obtain ⟨Q1, o1, c1, o, ps, pv, rfl, rfl, hS, hq, hps, hput, hQ, hQ2, hbel⟩ := hcut
        have hpr := hS.prs _ (List.mem_of_getElem? hq)
        obtain ⟨op, cp, hpv⟩ := row_form hpr
        simp only at hpv hpr
        subst hpv
        have hpl : ps.length ≤ i := hQ2 _ (List.mem_of_getElem? hq)
        obtain ⟨gs, cap1, e1, _, s2, f2⟩ := row_cell hS.row (j := o * 3 + 2) (u := .slice op ps.length cp) (by rw [flatQ, flat_at row3_len Q1 o 2 _ hq (by omega)]; rfl)
        obtain ⟨rfl, rfl⟩ : o1 = some ⟨gs, 0, none⟩ ∧ c1 = cap1 := by injection e1 with a1 a2 a3; exact ⟨a1, a3⟩
        have hoI : (o : Int) < (Q1.length : Int) := by have := (List.getElem?_eq_some_iff.1 hq).1; omega
        have dB : wc.cell? ⟨kb, jb + i, none⟩ = some (.string b) := (hbel.cell (p := ⟨kb, jb + i, none⟩) hlb).trans hcb
        have dC : wc.cell? ⟨kc, jc + i, none⟩ = some (.int .i64 v) := (hbel.cell (p := ⟨kc, jc + i, none⟩) hlc).trans hcc
        have HPS : Hid _ := hps
        have HPUT : Hid _ := hput
        clear hps hput e1 hcb hcc hlb hlc
        have hbase := hbel.size
        cases hix : ixOf ps b with
        | none =>
          have e : ixI (ixOf ps b) = -1 := by rw [hix]; rfl
          have HIX : Hid _ := hix
          clear hix
          go_upto_region 9 with fail
          go_quiet ((go_at_call 24; exact Calls.quiet_of_same (find24 (by exact hpr) (by unfold maxLen; omega) b)))
          go_wp2_with fail
          clear e
          obtain ⟨wd, hwd⟩ : ∃ wd, wd = wc.drewN nq := ⟨_, rfl⟩
          have hS' : StRel wd w.heap.size (.slice (some ⟨gs, 0, none⟩) Q1.length c1) Q1 := by rw [hwd]; exact hS.drewN nq
          have hpr' : wd.ownsRow w.heap.size 50 2 (.slice op ps.length cp) ps.length (flatP ps) := by rw [hwd]; exact hpr
          have hbel' : Below w.heap.size w wd := by rw [hwd]; exact below_drewN hbel nq
          have s2' : wd.cell? ⟨gs, o * 3 + 2, none⟩ = some (.slice op ps.length cp) := by rw [hwd]; exact s2
          have f2' : wd.frozen? ⟨gs, o * 3 + 2, none⟩ = false := by rw [hwd]; exact f2
          have dB' : wd.cell? ⟨kb, jb + i, none⟩ = some (.string b) := by rw [hwd]; exact dB
          have dC' : wd.cell? ⟨kc, jc + i, none⟩ = some (.int .i64 v) := by rw [hwd]; exact dC
          rw [← hwd]
          clear hS hpr hbel s2 f2 dB dC hwd hbase
          have hbase := hbel'.size
          obtain ⟨i0, hi0, hz0, hz1, hz2⟩ := info_parts info50
          have hgs : gs < wd.heap.size := World.block_lt_of_cell? wd _ s2'
          have hne : (Value.slice op ps.length cp).ownBlock ≠ some gs := fun e => rows_apart hS'.row hpr' (by decide) (k := gs) rfl e
          have lb : kb < wd.heap.size := World.block_lt_of_cell? wd _ dB'
          have lc : kc < wd.heap.size := World.block_lt_of_cell? wd _ dC'
          go_region_law
            ((refine step_append_lies _ (by rfl) _ _ _ (by rfl) w.heap.size 50 i0 _ 2 24 Try.underlying46 hi0 hz0 hz1 hz2 rfl (by omega) (.slice op ps.length cp) ps.length (flatP ps) (by rfl) (hpr'.alloc _)
                ⟨wd.heap.size, 0, none⟩ 1 1 (pair2 (b, v)) (by rfl) (by rfl) (World.news_of_block (cs := #[.string b, .int .i64 v]) (t := 50) (fr := (0, 0)) (heap_alloc_new wd _)) (by simp [pair2, Value.oneCell'])
                (by omega) (by unfold maxLen; omega) (by omega) (by simp; omega) (wd.heap.size + 1) (by simp) ?_; intro gp capp w3 hown hgrow hat hlt3
              have s3 : w3.cell? ⟨gs, o * 3 + 2, none⟩ = some (.slice op ps.length cp) := (hgrow.cell_far ⟨gs, o * 3 + 2, none⟩ (by simp; omega) (Ne.symm hne)).trans ((World.cell?_of_block (w := wd) (a := ⟨gs, o * 3 + 2, none⟩) (Below.heap_alloc wd _ gs hgs)).trans s2')
              have f3 : w3.frozen? ⟨gs, o * 3 + 2, none⟩ = false := (hgrow.frozen_far ⟨gs, o * 3 + 2, none⟩ (by simp; omega) (Ne.symm hne)).trans ((World.frozen?_of_block (w := wd) (a := ⟨gs, o * 3 + 2, none⟩) (Below.heap_alloc wd _ gs hgs)).trans f2')))
          all_goals
            have fin := ModelAt.push hS' hq HPS.out HPUT.out HIX.out hQ hQ2 hbel' HAi.out HBi.out HCi.out hgrow hown hat
            go_wp2_with fail
            go_roundw
            case rel => exact ⟨i + 1, by go_num, by omega, fin⟩
            case measure => simp [intOf]; omega
        | some j =>
          have e : ixI (ixOf ps b) = (j : Int) := by rw [hix]; rfl
          obtain ⟨n0, hj, _⟩ := ix_some hix
          have HIX : Hid _ := hix
          clear hix
          go_upto_region 9 with fail
          go_quiet ((go_at_call 24; exact Calls.quiet_of_same (find24 (by exact hpr) (by unfold maxLen; omega) b)))
          go_wp2_with fail
          obtain ⟨gp, capp, e2, hgpb, p2, fp2⟩ := row_cell hpr (j := j * 2 + 1) (u := .int .i64 n0) (by rw [flatP, flat_at pair2_len ps j 1 _ hj (by omega)]; rfl)
          obtain ⟨rfl, rfl⟩ : op = some ⟨gp, 0, none⟩ ∧ cp = capp := by injection e2 with a1 a2 a3; exact ⟨a1, a3⟩
          have hjI : (j : Int) < (ps.length : Int) := by have := (List.getElem?_eq_some_iff.1 hj).1; omega
          have fin := ModelAt.setAt (hS.drewN (nq + 1)) hq HPS.out HPUT.out HIX.out hj hQ hQ2 (below_drewN hbel (nq + 1)) hgpb HAi.out HBi.out HCi.out
          clear hS hpr hbel hQ2 hq hj e2
          go_region
          go_wp2_with fail
          go_roundw
          case rel => exact ⟨i + 1, by go_num, by omega, fin⟩
          case measure => simp [intOf]; omega
      · clear hA hB hC
        go_wp2_with fail
        go_meet
        obtain rfl : i = n := by omega
        exact ⟨Q, os, cs, rfl, hS, HR.out, hQ, hQ2, hbel⟩
  case rest =>
  clear hA hB hC
  have hM := hcut
  obtain ⟨Q, o, c, rfl, r⟩ := hcut
  clear r
  go_wp2_with fail
  go_loop [11, 15] (fun sv q => sv = .slice o Q.length c ∧ q = .int .i64 0) (fun _ _ => 0)
  case atStart => exact ⟨rfl, rfl⟩
  case round =>
    obtain ⟨rfl, rfl⟩ := hrel
    go_wp2_with fail
    go_loop [11, 16] (fun sv q => sv = .slice o Q.length c ∧ q = .int .i64 0) (fun _ _ => 0)
    case atStart => exact ⟨rfl, rfl⟩
    case round =>
      obtain ⟨rfl, rfl⟩ := hrel
      go_wp2_with fail
      go_ret
      exact ⟨_, rfl, hM⟩

end Go.Proofs.Qxb6601879a
