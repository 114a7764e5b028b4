import Derived.Test.Qxb6601879aModel
import Derived.Deep.LoopGhost
/-! The walk of zzMapOf. -/
namespace Go.Proofs.Qxb6601879a
open Go.RowKit Go.Maps

theorem con_getD (R : Rws) (a : ByteArray) : (conOf R a).getD (0, fun _ => none) = (((get R a).getD []).length, get ((get R a).getD [])) := by
  unfold conOf
  cases get R a with
  | none => rfl
  | some ps => rfl

theorem con_isSome (R : Rws) (a : ByteArray) : (conOf R a).isSome = (get R a).isSome := by
  unfold conOf; cases get R a <;> rfl

theorem con_step (R : Rws) (a b : ByteArray) (n : Int) :
    conOf (step R a b n) = updF (conOf R) a (some (if (get ((get R a).getD []) b).isSome then ((get R a).getD []).length else ((get R a).getD []).length + 1, updF (get ((get R a).getD [])) b (some n))) := by
  unfold step
  rw [conOf_put, length_put, get_put_fun]

theorem Kept.cell {w w' : World} {base : Nat} (h : Kept w w' base) {p : Addr} (hp : p.block < base) (hl : p.block < w.heap.size) : w'.cell? p = w.cell? p := World.cell?_of_block (w := w) (h.block p.block hl (.inl hp))

/-- The map after i pairs, in memory. -/
def MapAt (w : World) (A B : Nat → ByteArray) (C : Nat → Int) (i m : Nat) (wr : World) : Prop :=
  ∃ inn, MR wr w.heap.size m (2 * i) inn (rowsTo A B C i).length (conOf (rowsTo A B C i)) ∧ Below w.heap.size w wr

theorem MapAt.start (w : World) (A B : Nat → ByteArray) (C : Nat → Int) : MapAt w A B C 0 w.heap.size (w.alloc (.map #[] 0)) := by
  refine ⟨fun _ => 0, ⟨Nat.le_refl _, (MapO.empty (heap_alloc_new w _)).ext ?_ rfl, ?_, ?_⟩, (Below.refl _ _).alloc (Nat.le_refl _) _⟩
  · funext t; rfl
  · intro a c f h; cases h
  · intro a a' h; cases h

theorem MapAt.next {w wr wx w2 : World} {A B : Nat → ByteArray} {C : Nat → Int} {i m c1 : Nat} {inn1 : ByteArray → Nat} {a b : ByteArray} {v : Int} (hA : A i = a) (hB : B i = b) (hC : C i = v)
    (hM : MR w2 w.heap.size m (2 * i + 1 + 1) inn1 (if (conOf (rowsTo A B C i) a).isSome then (rowsTo A B C i).length else (rowsTo A B C i).length + 1)
      (updF (conOf (rowsTo A B C i)) a (some (c1, updF (get ((get (rowsTo A B C i) a).getD [])) b (some v)))))
    (hc1 : (if (get ((get (rowsTo A B C i) a).getD []) b).isSome then ((get (rowsTo A B C i) a).getD []).length else ((get (rowsTo A B C i) a).getD []).length + 1) = c1)
    (hbel : Below w.heap.size w wr) (hK : Kept wr wx w.heap.size) (hK2 : Kept wx w2 w.heap.size) : MapAt w A B C (i + 1) m w2 := by
  refine ⟨inn1, hM.ext ?_ ?_, ?_⟩
  · rw [rowsTo, hA, hB, hC, con_step, hc1]
  · rw [rowsTo, hA, hB, hC, con_isSome]
    unfold step
    rw [length_put]
  · have hb := (hK.trans hK2).below
    rcases hb with hb | hb
    · exact hbel.trans hb
    · exact absurd hbel.size hb

set_option maxHeartbeats 1000000 in
set_option maxRecDepth 100000 in
theorem map25 (w : World) (oA oB oC : Option Addr) (n cA cB cC ka ja kb jb kc jc : Nat) (A B : Nat → ByteArray) (C : Nat → Int) (hn : n ≤ 1048576) (hA : StrAt w oA n ka ja A) (hB : StrAt w oB n kb jb B) (hC : IntAt w oC n kc jc C)
    (hsA : ∀ i, i < n → (A i).size ≤ maxLen) (hsB : ∀ i, i < n → (B i).size ≤ maxLen) :
    Calls Try.prog 25 #[.slice oA n cA, .slice oB n cB, .slice oC n cC, .slice none 0 0, .slice none 0 0] w fun e w' => e = .returned (.map (some w.heap.size)) ∧ MapAt w A B C n w.heap.size w' := by
  have hmm := @run_makeMap Try.prog
  have he := nil54
  go_enter Try.func25, Try.ntmps25
  go_upto_block 0 with fail
  go_cut [] (fun wx => MapAt w A B C n w.heap.size wx)
  case first =>
    go_wp2_with fail
    go_loopw [12] (fun q wr => ∃ i : Nat, q = .int .i64 i ∧ i ≤ n ∧ MapAt w A B C i w.heap.size wr) (fun q _ => n - (intOf q).toNat)
    case atStart => exact ⟨0, rfl, Nat.zero_le _, MapAt.start w A B C⟩
    case round =>
      obtain ⟨i, rfl, hi, inn, hM, hbel⟩ := hrel
      by_cases hlt : i < n
      · have xA := hA.2 i hlt
        have xB := hB.2 i hlt
        have xC := hC.2 i hlt
        have lA : ka < w.heap.size := World.block_lt_of_cell? w _ xA
        have lB : kb < w.heap.size := World.block_lt_of_cell? w _ xB
        have lC : kc < w.heap.size := World.block_lt_of_cell? w _ xC
        clear xA xB xC
        have dA := (hA.below hbel).2 i hlt
        have dB := (hB.below hbel).2 i hlt
        have dC := (hC.below hbel).2 i hlt
        have ha := hsA i hlt
        have hb := hsB i hlt
        obtain rfl := hA.1 (by omega)
        obtain rfl := hB.1 (by omega)
        obtain rfl := hC.1 (by omega)
        have hiI : (i : Int) < (n : Int) := by omega
        generalize hAi : A i = a at dA ha
        generalize hBi : B i = b at dB hb
        generalize hCi : C i = v at dC
        have HAi : Hid _ := hAi
        have HBi : Hid _ := hBi
        have HCi : Hid _ := hCi
        clear hA hB hC hAi hBi hCi hsA hsB
        have hbase := hbel.size
        obtain ⟨r, hr⟩ : ∃ r, r = (if (conOf (rowsTo A B C i) a).isSome then some (inn a) else none) := ⟨_, rfl⟩
        have hl := hM.look51 ha
        rw [← hr] at hl
        have HR : Hid _ := hr
        clear hr
        obtain ⟨c, hc⟩ : ∃ c, c = ((get (rowsTo A B C i) a).getD []).length := ⟨_, rfl⟩
        obtain ⟨f, hf⟩ : ∃ f, f = get ((get (rowsTo A B C i) a).getD []) := ⟨_, rfl⟩
        have hcf := con_getD (rowsTo A B C i) a
        rw [← hc, ← hf] at hcf
        have HC : Hid _ := hc
        have HF : Hid _ := hf
        have HCF : Hid _ := hcf
        clear hc hf hcf
        go_upto_if 32 with fail
        go_cut [] (fun wx => Opened wr w.heap.size w.heap.size (2 * i + 1) (rowsTo A B C i).length (conOf (rowsTo A B C i)) a c f wx)
        case first =>
          have hcf := HCF.out
          cases hG : conOf (rowsTo A B C i) a with
          | some p =>
            have e := HR.out
            rw [hG] at e hcf
            subst e
            obtain rfl : p = (c, f) := hcf
            have fin : Opened wr w.heap.size w.heap.size (2 * i + 1) (rowsTo A B C i).length (conOf (rowsTo A B C i)) a c f wr := ⟨inn, (hM.mono (Nat.le_succ _)).ext (updF_self _ a hG).symm (by rw [hG]; rfl), Kept.refl _ _⟩
            have HG : Hid _ := hG
            clear hG hM
            go_wp2
            go_meet
            exact fin
          | none =>
            have e := HR.out
            rw [hG] at e hcf
            subst e
            cases hcf
            have hst := hM.newInner hbase (by unfold maxLen; omega) ha hG
            have HG : Hid _ := hG
            clear hG hM
            go_wp2_with (first | (at_mapUpdate; refine wpList_upd rfl _ _ _ _ rfl (.map (some w.heap.size)) (.string a) (.map (some wr.heap.size)) rfl rfl rfl hst ?_; rintro w2 ⟨hM2, hK2⟩))
            go_meet
            exact ⟨_, hM2.ext rfl (by rw [HG.out]; rfl), hK2⟩
        case rest =>
        obtain ⟨inn1, hM1, hK⟩ := hcut
        clear hl hM
        have dA' : wc.cell? ⟨ka, ja + i, none⟩ = some (.string a) := (hK.cell (p := ⟨ka, ja + i, none⟩) lA (by show ka < _; omega)).trans dA
        have dB' : wc.cell? ⟨kb, jb + i, none⟩ = some (.string b) := (hK.cell (p := ⟨kb, jb + i, none⟩) lB (by show kb < _; omega)).trans dB
        have dC' : wc.cell? ⟨kc, jc + i, none⟩ = some (.int .i64 v) := (hK.cell (p := ⟨kc, jc + i, none⟩) lC (by show kc < _; omega)).trans dC
        have hG1 : updF (conOf (rowsTo A B C i)) a (some (c, f)) a = some (c, f) := updF_same _ _ _
        have hlook : (Instr.lookup 51 (.map (some w.heap.size)) (.string a) false).run Try.prog wc.drew = .ok (.map (some (inn1 a))) wc.drew := (hM1.drewN 1).look51_some ha (by rw [hG1]; rfl)
        obtain ⟨w2, hupd, hM2, hK2⟩ := (hM1.drewN 1).put54 (by unfold maxLen; omega) hb hG1 v
        have hupd' : (Instr.mapUpdate 54 (.map (some (inn1 a))) (.string b) (.int .i64 v)).run Try.prog wc.drew = .ok () w2 := hupd
        rw [updF_twice] at hM2
        generalize hc1 : (if (f b).isSome then c else c + 1) = c1 at hM2
        have fin : MapAt w A B C (i + 1) w.heap.size w2 := MapAt.next HAi.out HBi.out HCi.out (by rw [← HF.out]; exact hM2) (by rw [← HF.out, ← HC.out]; exact hc1) hbel hK ⟨hK2.os, hK2.tape, hK2.output, hK2.size, hK2.block⟩
        have eA : w2.cell? ⟨ka, ja + i, none⟩ = some (.string a) := (hK2.cell (p := ⟨ka, ja + i, none⟩) lA (by show ka < wc.heap.size; have := hK.size; omega)).trans dA'
        have eB : w2.cell? ⟨kb, jb + i, none⟩ = some (.string b) := (hK2.cell (p := ⟨kb, jb + i, none⟩) lB (by show kb < wc.heap.size; have := hK.size; omega)).trans dB'
        have eC : w2.cell? ⟨kc, jc + i, none⟩ = some (.int .i64 v) := (hK2.cell (p := ⟨kc, jc + i, none⟩) lC (by show kc < wc.heap.size; have := hK.size; omega)).trans dC'
        clear hG1 hM1 hM2 hK hK2 hc1 hupd dA dB dC hbel
        go_upto_region 7 with fail
        go_region_held3 (fun w' => w'.cell? ⟨ka, ja + i, none⟩ = some (.string a) ∧ w'.cell? ⟨kb, jb + i, none⟩ = some (.string b) ∧ w'.cell? ⟨kc, jc + i, none⟩ = some (.int .i64 v))
          (first | go_keep | exact ⟨eA, eB, eC⟩) (fail)
        go_wp2_with fail
        go_roundw
        case rel => exact ⟨i + 1, by go_num, by omega, fin⟩
        case measure => simp [intOf]; omega
      · clear hA hB hC hsA hsB
        go_wp2_with fail
        go_meet
        obtain rfl : i = n := by omega
        exact ⟨inn, hM, hbel⟩
  case rest =>
  clear hA hB hC hsA hsB
  have hM := hcut
  clear hcut
  go_wp2_with fail
  go_loop [13] (fun q => q = .int .i64 0) (fun _ => 0)
  case atStart => rfl
  case round =>
    subst hrel
    go_wp2_with fail
    go_loop [16] (fun q => q = .int .i64 0) (fun _ => 0)
    case atStart => rfl
    case round =>
      subst hrel
      go_wp2_with fail
      go_ret
      exact ⟨rfl, hM⟩

end Go.Proofs.Qxb6601879a
