import Derived.Test.Qxb6601879aModel
import Derived.Deep.LoopGhost
/-! The walk of zzMatches. -/
namespace Go.Proofs.Qxb6601879a
open Go.RowKit Go.Maps

theorem neq54 (w : World) (r : Option Nat) : (binOp .neq 54 (.map r) (.map none)).run Try.prog w = .ok (.bool (!r.isNone)) w := run_neq_map_nil w _ _ _ r Try.underlying54

/-- Every key is a length that Go has. -/
def Sized (Q : List (ByteArray × Pairs × Value)) : Prop := ∀ q ∈ Q, q.1.size ≤ maxLen ∧ ∀ p ∈ q.2.1, p.1.size ≤ maxLen

set_option maxHeartbeats 1000000 in
set_option maxRecDepth 100000 in
theorem match27 {w : World} {b1 b2 m N : Nat} {inn : ByteArray → Nat} {os : Option Addr} {cs : Nat} {Q : List (ByteArray × Pairs × Value)} (hS : StRel w b1 (.slice os Q.length cs) Q) (hM : MR w b2 m N inn Q.length (conOf (rowsOf Q)))
    (hlen : Q.length ≤ 1048576) (hpl : ∀ q ∈ Q, q.2.1.length ≤ 1048576) (hsz : Sized Q) (hU : Uniq (rowsOf Q)) (hU2 : ∀ q ∈ Q, Uniq q.2.1) :
    Calls Try.prog 27 #[.map (some m), .slice os Q.length cs] w fun e w' => e = .returned (.bool true) ∧ ∃ n, w' = w.drewN n := by
  have he := nil51
  have he4 := nil54
  have hn4 := neq54
  have hl51 := hM.len51 3
  go_enter Try.func27, Try.ntmps27
  go_wp2_with fail
  go_loopw [5] (fun q wy => ∃ (o nr : Nat), q = .int .i64 o ∧ o ≤ Q.length ∧ wy = w.drewN nr) (fun q _ => Q.length - (intOf q).toNat)
  case atStart => exact ⟨0, 0, rfl, Nat.zero_le _, rfl⟩
  case round =>
    obtain ⟨o, nr, rfl, ho, rfl⟩ := hrel
    by_cases hlt : o < Q.length
    · obtain ⟨⟨a, ps, pv⟩, hq⟩ : ∃ q, Q[o]? = some q := ⟨_, List.getElem?_eq_getElem hlt⟩
      have hmem := List.mem_of_getElem? hq
      obtain ⟨gs, cap1, e1, _, s0, _⟩ := row_cell hS.row (j := o * 3 + 0) (u := .string a) (by rw [flatQ, flat_at row3_len Q o 0 _ hq (by omega)]; rfl)
      obtain ⟨rfl, rfl⟩ : os = some ⟨gs, 0, none⟩ ∧ cs = cap1 := by injection e1 with a1 a2 a3; exact ⟨a1, a3⟩
      obtain ⟨gs1, _, e2, _, s1, _⟩ := row_cell hS.row (j := o * 3 + 1) (u := .bool false) (by rw [flatQ, flat_at row3_len Q o 1 _ hq (by omega)]; rfl)
      obtain rfl : gs = gs1 := by injection e2 with a1; injection a1 with a2; injection a2
      obtain ⟨gs2, _, e3, _, s2, _⟩ := row_cell hS.row (j := o * 3 + 2) (u := pv) (by rw [flatQ, flat_at row3_len Q o 2 _ hq (by omega)]; rfl)
      obtain rfl : gs = gs2 := by injection e3 with a1; injection a1 with a2; injection a2
      have hpr := hS.prs _ hmem
      obtain ⟨op, cp, hpv⟩ := row_form hpr
      simp only at hpv hpr
      subst hpv
      have hpln : ps.length ≤ 1048576 := hpl _ hmem
      have hsa : a.size ≤ maxLen := (hsz _ hmem).1
      have hsp : ∀ p ∈ ps, p.1.size ≤ maxLen := (hsz _ hmem).2
      have hup : Uniq ps := hU2 _ hmem
      have hG : conOf (rowsOf Q) a = some (ps.length, get ps) := by
        unfold conOf
        rw [hU o (a, ps) (rowsOf_get hq)]; rfl
      have hl1 := fun k => (hM.drewN k).look51_ok hsa (by rw [hG]; rfl)
      have hl2 := fun k => (hM.drewN k).len54 hG 3
      have hl3 := fun k b n (hb : b.size ≤ maxLen) (hn : get ps b = some n) => (hM.drewN k).look54_ok hG hb hn
      have H3 : Hid _ := hl3
      have hoI : (o : Int) < (Q.length : Int) := by omega
      rw [Nat.add_zero] at s0
      clear hl3 hG hM hS hsz hU hU2 hpl e1 e2 e3 hq hmem hl51
      go_wp2_with fail
      go_quiet (fail)
      go_wp2_with fail
      go_loop [8] (fun q => ∃ j : Nat, q = .int .i64 j ∧ j ≤ ps.length) (fun q => ps.length - (intOf q).toNat)
      case atStart => exact ⟨0, rfl, Nat.zero_le _⟩
      case round =>
        obtain ⟨j, rfl, hj⟩ := hrel
        by_cases hjl : j < ps.length
        · obtain ⟨⟨b, n⟩, hp⟩ : ∃ p, ps[j]? = some p := ⟨_, List.getElem?_eq_getElem hjl⟩
          obtain ⟨gp, cap2, e4, _, p0, _⟩ := row_cell hpr (j := j * 2 + 0) (u := .string b) (by rw [flatP, flat_at pair2_len ps j 0 _ hp (by omega)]; rfl)
          obtain ⟨rfl, rfl⟩ : op = some ⟨gp, 0, none⟩ ∧ cp = cap2 := by injection e4 with a1 a2 a3; exact ⟨a1, a3⟩
          obtain ⟨gp1, _, e5, _, p1, _⟩ := row_cell hpr (j := j * 2 + 1) (u := .int .i64 n) (by rw [flatP, flat_at pair2_len ps j 1 _ hp (by omega)]; rfl)
          obtain rfl : gp = gp1 := by injection e5 with a1; injection a1 with a2; injection a2
          have hl4 := fun k => H3.out k b n (hsp _ (List.mem_of_getElem? hp)) (hup j (b, n) hp)
          have hjI : (j : Int) < (ps.length : Int) := by omega
          rw [Nat.add_zero] at p0
          clear H3 hpr hp hsp hup e4 e5
          go_wp2
          go_round
          case rel => exact ⟨j + 1, by go_num, by omega⟩
          case measure => simp [intOf]; omega
        · clear H3 hpr hsp hup
          go_wp2_with fail
          go_roundw
          case rel => exact ⟨o + 1, _, by go_num, by omega, rfl⟩
          case measure => simp [intOf]; omega
    · go_wp2_with fail
      go_ret
      exact ⟨rfl, nr, rfl⟩

end Go.Proofs.Qxb6601879a
