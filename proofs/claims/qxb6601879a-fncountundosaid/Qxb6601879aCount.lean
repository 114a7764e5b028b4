import Derived.Test.Qxb6601879aMr
import Derived.Deep.DeepCutAuto
import Derived.Deep.CutBlock
import Derived.Deep.RegionHeld3
import Derived.Deep.QuietTactic
import Derived.BigQuiet
import Derived.Deep.AppendLies
namespace Go.Proofs.Qxb6601879a
open Go.RowKit Go.Maps

theorem nil54 (w : World) (r : Option Nat) : (binOp .eql 54 (.map r) (.map none)).run Try.prog w = .ok (.bool r.isNone) w := run_eql_map_nil w _ _ _ r Try.underlying54
theorem nil51 (w : World) (r : Option Nat) : (binOp .eql 51 (.map r) (.map none)).run Try.prog w = .ok (.bool r.isNone) w := run_eql_map_nil w _ _ _ r Try.underlying51

/-- The inner map of a is there, as (c, f). -/
def Opened (w : World) (base m N sz : Nat) (G : Con) (a : ByteArray) (c : Nat) (f : ByteArray → Option Int) (wx : World) : Prop :=
  ∃ inn, MR wx base m N inn (if (G a).isSome then sz else sz + 1) (updF G a (some (c, f))) ∧ Kept w wx base

theorem updF_twice {β : Type} (F : ByteArray → β) (s : ByteArray) (x y : β) : updF (updF F s x) s y = updF F s y := by
  funext t; unfold updF; split <;> rfl
theorem updF_self {β : Type} (F : ByteArray → β) (s : ByteArray) {x : β} (h : F s = x) : updF F s x = F := by
  funext t; unfold updF; split
  · rename_i e; rw [e, h]
  · rfl

set_option maxHeartbeats 1000000 in
theorem count35_add {w : World} {base m N sz : Nat} {inn : ByteArray → Nat} {G : Con} (h : MR w base m N inn sz G) (hbase : base ≤ w.heap.size) (hN : N + 2 < maxLen) {a b : ByteArray} (ha : a.size ≤ maxLen) (hb : b.size ≤ maxLen)
    {c : Nat} {f : ByteArray → Option Int} (hcf : (G a).getD (0, fun _ => none) = (c, f)) (n v : Int) (hv : (f b).getD 0 = v) (h1 : 0 < v + n) (h2 : v + n ≤ 9223372036854775807) (c1 : Nat) (hc1 : (if (f b).isSome then c else c + 1) = c1) :
    Calls Try.prog 35 #[.map (some m), .string a, .string b, .int .i64 n] w fun e w' => e = .returned (.tuple #[]) ∧ Opened w base m (N + 2) sz G a c1 (updF f b (some (v + n))) w' := by
  have HC : Hid _ := hc1
  clear hc1
  have he := nil54
  have hmm := @run_makeMap Try.prog
  obtain ⟨r, hr⟩ : ∃ r, r = (if (G a).isSome then some (inn a) else none) := ⟨_, rfl⟩
  have hl := h.look51 ha
  rw [← hr] at hl
  have HR : Hid _ := hr
  clear hr
  have HV : Hid _ := hv
  clear hv
  go_enter Try.func35, Try.ntmps35
  go_upto_if 11 with fail
  go_cut [] (fun wx => Opened w base m (N + 1) sz G a c f wx)
  case first =>
    cases hG : G a with
    | some p =>
      have e := HR.out
      rw [hG] at e hcf
      subst e
      obtain rfl : p = (c, f) := hcf
      have fin : Opened w base m (N + 1) sz G a c f w := ⟨inn, (h.mono (Nat.le_succ N)).ext (updF_self G a hG).symm (by rw [hG]; rfl), Kept.refl _ _⟩
      have HG : Hid _ := hG
      clear hG
      go_wp2
      go_meet
      exact fin
    | none =>
      have e := HR.out
      rw [hG] at e hcf
      subst e
      cases hcf
      have hst := h.newInner hbase (by omega) ha hG
      have HG : Hid _ := hG
      clear hG
      go_wp2_with (first | (at_mapUpdate; refine wpList_upd rfl _ _ _ _ rfl (.map (some m)) (.string a) (.map (some w.heap.size)) rfl rfl rfl hst ?_; rintro w2 ⟨hM2, hK2⟩))
      go_meet
      exact ⟨_, hM2.ext rfl (by rw [HG.out]; rfl), hK2⟩
  case rest =>
  obtain ⟨inn1, hM, hK⟩ := hcut
  clear hl hmm
  have hG1 : updF G a (some (c, f)) a = some (c, f) := updF_same _ _ _
  have hl := hM.look51_some ha (by rw [hG1]; rfl)
  have hl2 := hM.look54 hG1 hb
  rw [HV.out] at hl2
  have hst := hM.put54 (by omega) hb hG1 (v + n)
  rw [updF_twice] at hst
  clear hG1
  rw [HC.out] at hst
  go_wp2_with (first | (at_mapUpdate; refine wpList_upd rfl _ _ _ _ rfl (.map (some (inn1 a))) (.string b) (.int .i64 (v + n)) rfl rfl rfl hst ?_; rintro w2 ⟨hM2, hK2⟩; have hG2 := updF_same G a (some (c1, updF f b (some (v + n)))); have hl3 := hM2.look51_some ha (by rw [hG2]; rfl); have hl4 := hM2.look54 hG2 hb; rw [updF_same, Option.getD_some] at hl4; have hl5 := hM2.len54 hG2 3; have hpos := (hM2.inner a _ _ hG2).2.2.pos (s := b) (by simp [innF, updF]); have hz : ((c1 : Int) == 0) = false := (by rw [beq_eq_false_iff_ne]; omega); clear hG2))
  go_end0
  exact ⟨rfl, inn1, hM2, hK.trans hK2⟩

/-- The pair taken away again: its inner map, or the whole key where that was its last. -/
def Closed (w : World) (base m N sz : Nat) (G : Con) (a : ByteArray) (c : Nat) (f : ByteArray → Option Int) (wx : World) : Prop :=
  ∃ inn, MR wx base m N inn (if c = 0 then sz - 1 else sz) (updF G a (if c = 0 then none else some (c, f))) ∧ Kept w wx base

set_option maxHeartbeats 1000000 in
/-- The pair is there, and its count comes to nought. -/
theorem count35_sub {w : World} {base m N sz : Nat} {inn : ByteArray → Nat} {G : Con} (h : MR w base m N inn sz G) (hN : N + 2 < maxLen) {a b : ByteArray} (ha : a.size ≤ maxLen) (hb : b.size ≤ maxLen)
    {c : Nat} {f : ByteArray → Option Int} (hG : G a = some (c, f)) (n v : Int) (hv : f b = some v) (h1 : v + n ≤ 0) (h2 : -9223372036854775808 ≤ v + n) :
    Calls Try.prog 35 #[.map (some m), .string a, .string b, .int .i64 n] w fun e w' => e = .returned (.tuple #[]) ∧ Closed w base m (N + 2) sz G a (c - 1) (updF f b none) w' := by
  have he := nil54
  have hl := h.look51_some ha (by rw [hG]; rfl)
  have hl2 := h.look54 hG hb
  rw [hv, Option.getD_some] at hl2
  have hst := h.put54 (by omega) hb hG (v + n)
  rw [hv, Option.isSome_some, if_pos rfl] at hst
  have HG : Hid _ := hG
  have HV : Hid _ := hv
  clear hG hv
  by_cases hc : c - 1 = 0
  · have HC : Hid _ := hc
    clear hc
    go_enter Try.func35, Try.ntmps35
    go_wp2_with (first
      | (at_mapUpdate; refine wpList_upd rfl _ _ _ _ rfl (.map (some (inn a))) (.string b) (.int .i64 (v + n)) rfl rfl rfl hst ?_
         rintro w2 ⟨hM2, hK2⟩
         have hG2 := updF_same G a (some (c, updF f b (some (v + n))))
         have hl3 := hM2.look51_some ha (by rw [hG2]; rfl)
         have hl4 := hM2.look54 hG2 hb
         rw [updF_same, Option.getD_some] at hl4
         have hd := hM2.del54 hb hG2 0
         rw [updF_same, Option.isSome_some, if_pos rfl, updF_twice, updF_twice, HC.out] at hd
         clear hG2)
      | (at_delete; refine wpList_del rfl _ _ _ _ rfl (.map (some (inn a))) (.string b) rfl rfl hd ?_
         rintro w3 ⟨hM3, hK3⟩
         have hG3 := updF_same G a (some (0, updF f b none))
         have hl5 := hM3.look51_some ha (by rw [hG3]; rfl)
         have hl6 := hM3.len54 hG3 3
         have hd' := hM3.del51 ha (by rw [hG3]; rfl) 0
         rw [updF_twice] at hd'
         clear hG3)
      | (at_delete; refine wpList_del rfl _ _ _ _ rfl (.map (some m)) (.string a) rfl rfl hd' ?_
         rintro w4 ⟨hM4, hK4⟩))
    go_end0
    exact ⟨rfl, inn, (hM4.mono (Nat.le_succ _)).ext (by rw [HC.out]; rfl) (by rw [HC.out]; rfl), hK2.trans (hK3.trans hK4)⟩
  · have HC : Hid _ := hc
    have hz : ((↑(c - 1) : Int) == 0) = false := by rw [beq_eq_false_iff_ne]; omega
    generalize hc1 : c - 1 = c1 at hz HC
    have HC1 : Hid _ := hc1
    clear hc hc1
    go_enter Try.func35, Try.ntmps35
    go_wp2_with (first
      | (at_mapUpdate; refine wpList_upd rfl _ _ _ _ rfl (.map (some (inn a))) (.string b) (.int .i64 (v + n)) rfl rfl rfl hst ?_
         rintro w2 ⟨hM2, hK2⟩
         have hG2 := updF_same G a (some (c, updF f b (some (v + n))))
         have hl3 := hM2.look51_some ha (by rw [hG2]; rfl)
         have hl4 := hM2.look54 hG2 hb
         rw [updF_same, Option.getD_some] at hl4
         have hd := hM2.del54 hb hG2 0
         rw [updF_same, Option.isSome_some, if_pos rfl, updF_twice, updF_twice, HC1.out] at hd
         clear hG2)
      | (at_delete; refine wpList_del rfl _ _ _ _ rfl (.map (some (inn a))) (.string b) rfl rfl hd ?_
         rintro w3 ⟨hM3, hK3⟩
         have hG3 := updF_same G a (some (c1, updF f b none))
         have hl5 := hM3.look51_some ha (by rw [hG3]; rfl)
         have hl6 := hM3.len54 hG3 3
         clear hG3))
    go_end0
    exact ⟨rfl, inn, (hM3.mono (Nat.le_succ _)).ext (by rw [if_neg HC.out]) (by rw [if_neg HC.out]), hK2.trans hK3⟩

theorem count26_add {w : World} {base m N sz : Nat} {inn : ByteArray → Nat} {G : Con} (h : MR w base m N inn sz G) (hbase : base ≤ w.heap.size) (hN : N + 2 < maxLen) {a b : ByteArray} (ha : a.size ≤ maxLen) (hb : b.size ≤ maxLen)
    {c : Nat} {f : ByteArray → Option Int} (hcf : (G a).getD (0, fun _ => none) = (c, f)) (n v : Int) (hv : (f b).getD 0 = v) (h1 : 0 < v + n) (h2 : v + n ≤ 9223372036854775807) (c1 : Nat) (hc1 : (if (f b).isSome then c else c + 1) = c1) :
    Calls Try.prog 26 #[.map (some m), .string a, .string b, .int .i64 n] w fun e w' => e = .returned (.tuple #[]) ∧ Opened w base m (N + 2) sz G a c1 (updF f b (some (v + n))) w' := by
  have H := count35_add h hbase hN ha hb hcf n v hv h1 h2 c1 hc1
  clear hcf hv hc1 h
  go_enter Try.func26, Try.ntmps26
  go_wp2_with (go_at_call 35; refine H.mono ?_; rintro e w' ⟨rfl, hO⟩)
  go_end0
  exact ⟨rfl, hO⟩

theorem count26_sub {w : World} {base m N sz : Nat} {inn : ByteArray → Nat} {G : Con} (h : MR w base m N inn sz G) (hN : N + 2 < maxLen) {a b : ByteArray} (ha : a.size ≤ maxLen) (hb : b.size ≤ maxLen)
    {c : Nat} {f : ByteArray → Option Int} (hG : G a = some (c, f)) (n v : Int) (hv : f b = some v) (h1 : v + n ≤ 0) (h2 : -9223372036854775808 ≤ v + n) :
    Calls Try.prog 26 #[.map (some m), .string a, .string b, .int .i64 n] w fun e w' => e = .returned (.tuple #[]) ∧ Closed w base m (N + 2) sz G a (c - 1) (updF f b none) w' := by
  have H := count35_sub h hN ha hb hG n v hv h1 h2
  clear hG hv h
  go_enter Try.func26, Try.ntmps26
  go_wp2_with (go_at_call 35; refine H.mono ?_; rintro e w' ⟨rfl, hO⟩)
  go_end0
  exact ⟨rfl, hO⟩

end Go.Proofs.Qxb6601879a
