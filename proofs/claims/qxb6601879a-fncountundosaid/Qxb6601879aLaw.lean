import Derived.Test.Qxb6601879aUndo
/-! The walk of the law. -/
namespace Go.Proofs.Qxb6601879a
open Go.RowKit Go.Maps

/-- The map is as it was built: it matches the model. -/
theorem fin27 {w1 w2 w4 : World} {b0 m N nC : Nat} {inn : ByteArray → Nat} {os : Option Addr} {cs : Nat} {Q : List (ByteArray × Pairs × Value)} {R : Rws} (hS : StRel w1 b0 (.slice os Q.length cs) Q) (hbel2 : Below w1.heap.size w1 w2)
    (hM : MR w4 w1.heap.size m N inn R.length (conOf R)) (hK : Kept w2 w4 w1.heap.size) (hR : rowsOf Q = R) (hgood : Good R) (hsized : ∀ x ∈ R, x.1.size ≤ maxLen ∧ ∀ p ∈ x.2, p.1.size ≤ maxLen)
    (hbig : nC ≤ 1048576) (hQ : Q.length ≤ nC) (hQ2 : ∀ q ∈ Q, q.2.1.length ≤ nC) :
    Calls Try.prog 27 #[.map (some m), .slice os Q.length cs] w4 fun e w' => e = .returned (.bool true) ∧ ∃ n, w' = w4.drewN n := by
  subst hR
  have hl : (rowsOf Q).length = Q.length := by unfold rowsOf; rw [List.length_map]
  rw [hl] at hM
  have hU : Uniq (rowsOf Q) := uniq_of_nodup hgood.keys
  refine match27 ((hS.below hbel2).kept hK) hM (by omega) (fun q hq => Nat.le_trans (hQ2 q hq) hbig) (fun q hq => hsized _ (mem_rowsOf hq)) hU (fun q hq => ?_)
  obtain ⟨i, hi⟩ := List.getElem?_of_mem (mem_rowsOf hq)
  exact uniq_of_nodup (hgood.rows _ _ (hU i _ hi)).1

/-- The second call takes away what the first one added. -/
theorem undo26 {w1 w2 w3 : World} {N c1 : Nat} {inn1 : ByteArray → Nat} {R : Rws} {a b : ByteArray} {n v u : Int} (hgood : Good R) (hbel2 : Below w1.heap.size w1 w2) (hN : N + 2 < maxLen) (ha : a.size ≤ maxLen) (hb : b.size ≤ maxLen)
    (hn0 : 0 < n) (hv0 : 0 ≤ v) (hov : v ≤ 9223372036854775807 - n) (hv : (get (pairsAt R a) b).getD 0 = v) (hc1 : (if (get (pairsAt R a) b).isSome then (pairsAt R a).length else (pairsAt R a).length + 1) = c1) (hu : u = v + n)
    (hM1 : MR w3 w1.heap.size w1.heap.size N inn1 (if (conOf R a).isSome then R.length else R.length + 1) (updF (conOf R) a (some (c1, updF (get (pairsAt R a)) b (some u))))) (hK1 : Kept w2 w3 w1.heap.size) :
    Calls Try.prog 26 #[.map (some w1.heap.size), .string a, .string b, .int .i64 (-n)] w3 fun e w4 => e = .returned (.tuple #[]) ∧ ∃ N' inn', MR w4 w1.heap.size w1.heap.size N' inn' R.length (conOf R) ∧ Kept w2 w4 w1.heap.size := by
  subst hu
  by_cases hp : 0 < v
  · refine (count26_add hM1 (Nat.le_trans hbel2.size hK1.size) hN ha hb (c := c1) (f := updF (get (pairsAt R a)) b (some (v + n))) (by rw [updF_same]; rfl) (-n) (v + n) (by rw [updF_same]; rfl) (by omega) (by omega) _ rfl).mono ?_
    rintro e w4 ⟨rfl, hO⟩
    obtain ⟨inn', h1, h2⟩ := undo_pos hv hp hc1 rfl rfl hO hK1
    exact ⟨rfl, _, inn', h1, h2⟩
  · obtain rfl : v = 0 := by omega
    have hbn : get (pairsAt R a) b = none := by
      cases hg : get (pairsAt R a) b with
      | none => rfl
      | some y =>
        rw [hg] at hv
        obtain rfl : y = 0 := hv
        cases hg2 : get R a with
        | none => rw [pairsAt, hg2] at hg; cases hg
        | some ps =>
          rw [pairsAt, hg2] at hg
          have := (hgood.rows a ps hg2).2.2 b 0 hg
          omega
    have h0 : (0 : Int) + n = n := by omega
    rw [h0] at hM1
    refine (count26_sub hM1 hN ha hb (updF_same _ _ _) (-n) n (updF_same _ _ _) (by omega) (by omega)).mono ?_
    rintro e w4 ⟨rfl, hO⟩
    obtain ⟨inn', h1, h2⟩ := undo_zero hbn (fun ps hps => (hgood.rows a ps hps).2.1) hc1 rfl hO hK1
    exact ⟨rfl, _, inn', h1, h2⟩

theorem fin_below {w w1 w2 w4 : World} (hbel : Below w.heap.size w w1) (hbel2 : Below w1.heap.size w1 w2) (hK : Kept w2 w4 w1.heap.size) (k : Nat) : Below w.heap.size w (w4.drewN k) := by
  have hb : Below w1.heap.size w2 w4 := by
    rcases hK.below with h | h
    · exact h
    · exact absurd hbel2.size h
  have h3 : Below w.heap.size w w4 := hbel.trans ((hbel2.trans hb).mono hbel.size)
  exact below_drewN h3 k

set_option maxHeartbeats 1000000 in
set_option maxRecDepth 100000 in
theorem law5 (w : World) (oA oB oC : Option Addr) (nA cA nB cB nC cC ka ja kb jb kc jc : Nat) (A B : Nat → ByteArray) (C : Nat → Int) (hnA : nA ≤ maxLen) (hnB : nB ≤ maxLen) (hnC : nC ≤ maxLen)
    (hA : StrAt w oA nA ka ja A) (hB : StrAt w oB nB kb jb B) (hC : IntAt w oC nC kc jc C) (hsA : ∀ i, i < nA → (A i).size ≤ maxLen) (hsB : ∀ i, i < nB → (B i).size ≤ maxLen)
    (a b : ByteArray) (ha : a.size ≤ maxLen) (hb : b.size ≤ maxLen) (n : Int) (hn1 : -9223372036854775808 ≤ n) (hn2 : n ≤ 9223372036854775807) :
    Calls Try.prog 5 #[.slice oA nA cA, .slice oB nB cB, .slice oC nC cC, .string a, .string b, .int .i64 n] w fun e w' => e = .returned (.bool true) ∧ Below w.heap.size w w' := by
  have hnA' := hnA
  have hnB' := hnB
  have hnC' := hnC
  unfold maxLen at hnA' hnB' hnC'
  go_enter Try.func5, Try.ntmps5
  go_wp2_with fail
  refine (bytes20 w oA oB oC nA cA nB cB nC cC ka ja kb jb A B hnB hA hB a b n).mono ?_
  rintro e w' ⟨⟨bb, rfl, hbb⟩, hw⟩
  obtain rfl : w = w' := hw.symm
  cases bb
  · go_wp2_with fail
    go_ret
    exact ⟨rfl, Below.refl _ _⟩
  have hbig := hbb rfl
  clear hbb hw
  go_wp2_with fail
  refine (bytes21 w oA oB oC nA cA nB cB nC cC ka ja kb jb A B hnA hnB hA hB a b).mono ?_
  rintro e w' ⟨⟨x, rfl⟩, hw⟩
  obtain rfl : w = w' := hw.symm
  clear hw
  by_cases hx : 1048576 < x
  · go_wp2_with fail
    go_ret
    exact ⟨rfl, Below.refl _ _⟩
  by_cases hlens : nB = nA ∧ nC = nA
  rotate_left
  · by_cases h1 : nB = nA
    · have h2 : ((nC : Int) != (nA : Int)) = true := by simp; omega
      have h3 : ((nB : Int) != (nA : Int)) = false := by simp; omega
      clear h1 hlens
      go_wp2_with fail
      go_ret
      exact ⟨rfl, Below.refl _ _⟩
    · have h2 : ((nB : Int) != (nA : Int)) = true := by simp; omega
      clear h1 hlens
      go_wp2_with fail
      go_ret
      exact ⟨rfl, Below.refl _ _⟩
  obtain ⟨rfl, rfl⟩ := hlens
  go_upto_block 0 with fail
  go_cut [] (fun wx => (∀ i, i < nC → 0 < C i) ∧ wx = w)
  case first =>
    go_wp2_with fail
    go_loop [13] (fun q => ∃ k : Nat, q = .int .i64 k ∧ k ≤ nC ∧ Hid (∀ i, i < k → 0 < C i)) (fun q => nC - (intOf q).toNat)
    case atStart => exact ⟨0, rfl, Nat.zero_le _, fun i hi => absurd hi (Nat.not_lt_zero _)⟩
    case round =>
      obtain ⟨k, rfl, hk, H⟩ := hrel
      by_cases hlt : k < nC
      · have dC := hC.2 k hlt
        obtain rfl := hC.1 (by omega)
        have hkI : (k : Int) < (nC : Int) := by omega
        clear hA hB hC hsA hsB
        by_cases hp : 0 < C k
        · go_wp2
          go_round
          case rel => exact ⟨k + 1, by go_num, by omega, fun i hi => by
            rcases Nat.lt_succ_iff_lt_or_eq.1 hi with h | rfl
            · exact H.out i h
            · exact hp⟩
          case measure => simp [intOf]; omega
        · go_wp2
          go_ret
          exact ⟨rfl, Below.refl _ _⟩
      · clear hA hB hC hsA hsB
        go_wp2_with fail
        go_meet
        exact ⟨fun i hi => H.out i (by omega), rfl⟩
  case rest =>
  obtain ⟨hpos, hwc⟩ := hcut
  obtain rfl : w = wc := hwc.symm
  clear hwc
  have HPOS : Hid _ := hpos
  clear hpos
  by_cases hn0 : 0 < n
  rotate_left
  · go_wp2_with fail
    go_ret
    exact ⟨rfl, Below.refl _ _⟩
  go_wp2_with fail
  refine (model22 w oA oB oC nC cA cB cC ka ja kb jb kc jc A B C hbig hA hB hC).mono ?_
  rintro e w1 ⟨sv, rfl, Q, os, cs, rfl, hS, hR, hQ, hQ2, hbel⟩
  have hgood := good_rowsTo (A := A) (B := B) (C := C) nC HPOS.out
  have hsized := sized_rowsTo (A := A) (B := B) (C := C) nC hsA hsB
  obtain ⟨R, hRR⟩ : ∃ R, R = rowsTo A B C nC := ⟨_, rfl⟩
  rw [← hRR] at hR hgood hsized
  have HRR : Hid _ := hRR
  have HR : Hid _ := hR
  clear hRR hR
  obtain ⟨v, hv⟩ : ∃ v, (get (pairsAt R a) b).getD 0 = v := ⟨_, rfl⟩
  have hv0 : 0 ≤ v := by
    rw [← hv]
    cases hg : get (pairsAt R a) b with
    | none => simp
    | some y =>
      cases hg2 : get R a with
      | none => rw [pairsAt, hg2] at hg; cases hg
      | some ps =>
        rw [pairsAt, hg2] at hg
        have := (hgood.rows a ps hg2).2.2 b y hg
        simp; omega
  have HV : Hid _ := hv
  clear hv
  obtain ⟨z, hz⟩ : ∃ z, z = ixI (ixOf Q a) := ⟨_, rfl⟩
  have HZ : Hid _ := hz
  clear hz
  go_upto_if 67 with (go_at_call 23; refine (find23 hS.row (by unfold maxLen; omega) _).mono ?_; rintro e w' ⟨rfl, hw⟩; obtain rfl : w1 = w' := hw.symm; rw [← HZ.out])
  go_cut [15] (fun ov wx => ov = .int .i64 v ∧ wx = w1)
  case first =>
    cases hix : ixOf Q a with
    | none =>
      have e := HZ.out
      rw [hix] at e
      obtain rfl : z = -1 := e
      have hv' : v = 0 := by
        have hg : get R a = none := by
          have e := HR.out
          rw [← e]
          exact ix_none (by rw [ix_rowsOf]; exact hix)
        rw [← HV.out, pairsAt, hg]; rfl
      clear hix hS hQ2 hsA hsB hA hB hC
      subst hv'
      go_wp2_with fail
      go_meet
      exact ⟨rfl, rfl⟩
    | some o =>
      have e := HZ.out
      rw [hix] at e
      obtain rfl : z = (o : Int) := e
      obtain ⟨⟨ps, pv⟩, hq, _⟩ := ix_some hix
      have hps : pairsAt R a = ps := by
        obtain ⟨ps', h1, h2⟩ := ix_some (l := rowsOf Q) (k := a) (by rw [ix_rowsOf]; exact hix)
        rw [rowsOf_get hq] at h1
        cases h1
        rw [pairsAt, ← HR.out, h2]; rfl
      have hpr := hS.prs _ (List.mem_of_getElem? hq)
      obtain ⟨op, cp, hpv⟩ := row_form hpr
      simp only at hpv hpr
      subst hpv
      have hpl : ps.length ≤ nC := hQ2 _ (List.mem_of_getElem? hq)
      obtain ⟨gs, cap1, e1, _, s2, _⟩ := row_cell hS.row (j := o * 3 + 2) (u := .slice op ps.length cp) (by rw [flatQ, flat_at row3_len Q o 2 _ hq (by omega)]; rfl)
      obtain ⟨rfl, rfl⟩ : os = some ⟨gs, 0, none⟩ ∧ cs = cap1 := by injection e1 with a1 a2 a3; exact ⟨a1, a3⟩
      have hoI : (o : Int) < (Q.length : Int) := by have := (List.getElem?_eq_some_iff.1 hq).1; omega
      have hv := HV.out
      rw [hps] at hv
      cases hix2 : ixOf ps b with
      | none =>
        have ez : ixI (ixOf ps b) = -1 := by rw [hix2]; rfl
        rw [ix_none hix2] at hv
        obtain rfl : 0 = v := hv
        clear hix hix2 hS hQ2 hsA hsB hA hB hC e1 hq hps HV HR HRR HZ hgood hsized
        go_wp2_with (go_at_call 24; refine (find24 hpr (by unfold maxLen; omega) b).mono ?_; rintro e w' ⟨rfl, hw⟩; obtain rfl : w1 = w' := hw.symm)
        go_meet
        exact ⟨rfl, rfl⟩
      | some j =>
        have ez : ixI (ixOf ps b) = (j : Int) := by rw [hix2]; rfl
        obtain ⟨n0, hj, hget⟩ := ix_some hix2
        rw [hget] at hv
        obtain rfl : n0 = v := hv
        obtain ⟨gp, capp, e2, _, p2, _⟩ := row_cell hpr (j := j * 2 + 1) (u := .int .i64 n0) (by rw [flatP, flat_at pair2_len ps j 1 _ hj (by omega)]; rfl)
        obtain ⟨rfl, rfl⟩ : op = some ⟨gp, 0, none⟩ ∧ cp = capp := by injection e2 with a1 a2 a3; exact ⟨a1, a3⟩
        have hjI : (j : Int) < (ps.length : Int) := by have := (List.getElem?_eq_some_iff.1 hj).1; omega
        clear hix hix2 hS hQ2 hsA hsB hA hB hC e1 e2 hq hps HV HR HRR HZ hgood hsized hj hget
        go_wp2_with (go_at_call 24; refine (find24 hpr (by unfold maxLen; omega) b).mono ?_; rintro e w' ⟨rfl, hw⟩; obtain rfl : w1 = w' := hw.symm)
        go_meet
        exact ⟨rfl, rfl⟩
  case rest =>
  obtain ⟨rfl, hwc⟩ := hcut
  obtain rfl : w1 = wc := hwc.symm
  clear hwc HZ
  by_cases hov : v ≤ 9223372036854775807 - n
  rotate_left
  · go_wp2_with fail
    go_ret
    exact ⟨rfl, hbel⟩
  go_wp2_with fail
  refine (map25 w1 oA oB oC nC cA cB cC ka ja kb jb kc jc A B C hbig (hA.below hbel) (hB.below hbel) (hC.below hbel) hsA hsB).mono ?_
  rintro e w2 ⟨rfl, inn, hM, hbel2⟩
  rw [← HRR.out] at hM
  clear hA hB hC hsA hsB HPOS
  obtain ⟨c1, hc1⟩ : ∃ c1, (if (get (pairsAt R a) b).isSome then (pairsAt R a).length else (pairsAt R a).length + 1) = c1 := ⟨_, rfl⟩
  have H26 := count26_add hM hbel2.size (by unfold maxLen; omega) ha hb (con_pairs R a) n v HV.out (by omega) (by omega) c1 hc1
  have HC1 : Hid _ := hc1
  clear hc1 hM
  obtain ⟨u, hu⟩ : ∃ u, u = v + n := ⟨_, rfl⟩
  have hu1 : 0 < u := by omega
  have hu2 : u ≤ 9223372036854775807 := by omega
  rw [← hu] at H26
  have HU : Hid _ := hu
  have hu3 : ((u : Int) != v + n) = false := by simp; omega
  clear hu
  go_wp2_with (go_at_call 26; refine H26.mono ?_; rintro e w3 ⟨rfl, inn1, hM1, hK1⟩; have hl1 := hM1.look51_some ha (by rw [updF_same]; rfl); have hl2 := hM1.look54 (updF_same _ _ _) hb; rw [updF_same, Option.getD_some] at hl2; clear H26)
  have hu := HU.out
  have H26 := undo26 hgood hbel2 (by unfold maxLen; omega) ha hb hn0 hv0 hov HV.out HC1.out hu hM1 hK1
  clear hM1 hl1 hl2 hu
  refine H26.mono ?_
  rintro e w4 ⟨rfl, N', inn', hM4, hK4⟩
  have H27 := fin27 hS hbel2 hM4 hK4 HR.out hgood hsized hbig hQ hQ2
  clear H26 hM4 hu3 HC1 HV HR HRR HU hgood hsized hQ2 hS
  go_wp2_with (go_at_call 27; refine H27.mono ?_; rintro e w5 ⟨rfl, k, rfl⟩)
  go_ret
  exact ⟨rfl, fin_below hbel hbel2 hK4 k⟩

end Go.Proofs.Qxb6601879a
