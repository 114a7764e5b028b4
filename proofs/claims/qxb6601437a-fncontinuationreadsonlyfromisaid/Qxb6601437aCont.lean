import Derived.Test.Qxb6601437aRows
import Derived.Test.Qxb6601437aPlain
import Derived.WalkKit
import Derived.WalkSpells
import Derived.WalkLawsBesides
namespace Go.Proofs.Qxb6601437a
open Go.RowKit

theorem size_eq (s : ByteArray) : s.size = s.data.toList.length := by simp
theorem toList_data (s : ByteArray) : s.toList = s.data.toList := ByteArray.toList_eq s
theorem extract_data (s : ByteArray) (a b : Nat) : (s.extract a b).data.toList = (s.data.toList.drop a).take (b - a) := by
  obtain ⟨⟨l⟩⟩ := s
  rw [ByteArray.extract_mk]

theorem ret_int {k : IntKind} {a b : Int} (h : a = b) : Ending.returned (.int k a) = .returned (.int k b) := by rw [h]
theorem ret_bool {a b : Bool} (h : a = b) : Ending.returned (.bool a) = .returned (.bool b) := by rw [h]

/-- Do the bytes begin with two dashes? -/
def dd (t : List UInt8) : Bool := t.take 2 == [45, 45]

section steps
variable {s : ByteArray} {k : Nat} {nl : Bool}
theorem at_k (h : k < s.size) : s.data.toList[k]? = some s[k] := by
  rw [List.getElem?_eq_getElem (by simpa using h)]; rfl
theorem u8_eq {c d : UInt8} (h : (c.toNat : Int) = d.toNat) : c = d := UInt8.toNat_inj.1 (by omega)
theorem u8_ne {c d : UInt8} (h : ¬ (c.toNat : Int) = d.toNat) : ¬ c = d := fun e => h (by rw [e])
theorem u8_iff (c d : UInt8) : c = d ↔ (c.toNat : Int) = d.toNat := ⟨fun e => by rw [e], u8_eq⟩

theorem st_nl (h : k < s.size) (m : Bool) (hv : (s[k].toNat : Int) = 10 ∨ (s[k].toNat : Int) = 13) :
    Plain.res s.data.toList k m nl = Plain.res s.data.toList (k + 1) false true :=
  Plain.res_nl m (at_k h) (by rw [u8_iff, u8_iff]; exact hv)

theorem st_ws (h : k < s.size) (h1 : ¬ (s[k].toNat : Int) = 10) (h2 : ¬ (s[k].toNat : Int) = 13)
    (hv : (s[k].toNat : Int) = 32 ∨ (s[k].toNat : Int) = 9 ∨ (s[k].toNat : Int) = 12 ∨ ((s[k].toNat : Int) = 11 ∧ nl = true)) :
    Plain.res s.data.toList k false nl = Plain.res s.data.toList (k + 1) false nl :=
  Plain.res_ws (at_k h) (by rw [u8_iff, u8_iff]; exact fun e => e.elim h1 h2) (by rw [u8_iff, u8_iff, u8_iff, u8_iff]; exact hv)

theorem dd_iff (h : k < s.size) : dd ((s.data.toList.drop k).take (s.size - k)) = true ↔ (s[k] = 45 ∧ s.data.toList[k + 1]? = some 45) := by
  rw [List.take_of_length_le (by rw [List.length_drop, ← size_eq]; exact Nat.le_refl _), Plain.drop_at (at_k h), dd]
  rw [List.take_succ_cons]
  cases hd : s.data.toList[k + 1]? with
  | none =>
    rw [List.drop_eq_nil_of_le (List.getElem?_eq_none_iff.1 hd)]; simp
  | some c => rw [Plain.drop_at hd]; simp

theorem st_dash (h : k < s.size) (hv : dd ((s.data.toList.drop k).take (s.size - k)) = true) :
    Plain.res s.data.toList k false nl = Plain.res s.data.toList (k + 1) true nl :=
  Plain.res_dash (at_k h) ((dd_iff h).1 hv).1 ((dd_iff h).1 hv).2

theorem st_quote (h : k < s.size) (hv : (s[k].toNat : Int) = 39) (hn : nl = true) :
    Plain.res s.data.toList k false nl = k :=
  Plain.res_quote (at_k h) (u8_eq hv) hn

theorem st_other (h : k < s.size) (h1 : ¬ (s[k].toNat : Int) = 10) (h2 : ¬ (s[k].toNat : Int) = 13)
    (h3 : ¬ ((s[k].toNat : Int) = 32 ∨ (s[k].toNat : Int) = 9 ∨ (s[k].toNat : Int) = 12 ∨ ((s[k].toNat : Int) = 11 ∧ nl = true)))
    (h4 : dd ((s.data.toList.drop k).take (s.size - k)) = false) (h5 : ¬ ((s[k].toNat : Int) = 39 ∧ nl = true)) :
    Plain.res s.data.toList k false nl = -1 := by
  refine Plain.res_other (at_k h) (by rw [u8_iff, u8_iff]; exact fun e => e.elim h1 h2) (by rw [u8_iff, u8_iff, u8_iff, u8_iff]; exact h3) ?_ (by rw [u8_iff]; exact h5)
  intro e
  rw [(dd_iff h).2 e] at h4; cases h4

theorem st_end (m : Bool) (h : s.size ≤ k) : Plain.res s.data.toList k m nl = -1 :=
  Plain.res_end m nl (by rw [← size_eq]; exact h)

theorem st_skip (h : k < s.size) (h1 : ¬ (s[k].toNat : Int) = 10) (h2 : ¬ (s[k].toNat : Int) = 13) :
    Plain.res s.data.toList k true nl = Plain.res s.data.toList (k + 1) true nl :=
  Plain.res_skip (at_k h) (by rw [u8_iff, u8_iff]; exact fun e => e.elim h1 h2)

theorem st_stop (h : k < s.size) (h1 : (s[k].toNat : Int) = 10 ∨ (s[k].toNat : Int) = 13) :
    Plain.res s.data.toList k true nl = Plain.res s.data.toList k false nl :=
  Plain.res_stop (at_k h) (by rw [u8_iff, u8_iff]; exact h1)
theorem st_stop_end (h : s.size ≤ k) : Plain.res s.data.toList k true nl = Plain.res s.data.toList k false nl := by
  rw [st_end _ h, st_end _ h]
end steps

set_option maxHeartbeats 400000 in
theorem hasp10 (t : ByteArray) (w : World) :
    Calls Try.prog 10 #[.string t, .string ⟨#[45, 45]⟩] w fun e w' => e = .returned (.bool (dd t.data.toList)) ∧ w' = w := by
  go_enter Try.func10, Try.ntmps10
  go_wp2
  all_goals go_ret
  · refine ⟨ret_bool ?_, rfl⟩
    rw [toList_data, extract_data, List.drop_zero]; simp [dd]
  · refine ⟨ret_bool ?_, rfl⟩
    have hl : t.data.toList.length < 2 := by rw [← size_eq]; omega
    symm; simp only [dd, beq_eq_false_iff_ne]; intro e
    have := congrArg List.length e
    simp only [List.length_take, List.length_cons, List.length_nil] at this; omega

set_option maxHeartbeats 400000 in
theorem hasp9 (t : ByteArray) (w : World) :
    Calls Try.prog 9 #[.string t, .string ⟨#[45, 45]⟩] w fun e w' => e = .returned (.bool (dd t.data.toList)) ∧ w' = w := by
  go_enter Try.func9, Try.ntmps9
  go_wp2_with (go_at_call 10; refine (hasp10 _ _).mono ?_; rintro e w' ⟨rfl, rfl⟩)
  go_ret
  exact ⟨rfl, rfl⟩

set_option maxHeartbeats 1000000 in
theorem cont8 (s : ByteArray) (i : Nat) (w : World) (hs : s.size ≤ 2097152) (hi : i ≤ 9223372036854775807) :
    Calls Try.prog 8 #[.string s, .int .i64 i] w fun e w' => e = .returned (.int .i64 (Plain.res s.data.toList i false false)) ∧ w' = w := by
  go_enter Try.func8, Try.ntmps8
  go_wp2
  go_loop [1, 5] (fun p q => ∃ (k : Nat) (nl : Bool), p = .int .i64 k ∧ q = .bool nl ∧ k ≤ 9223372036854775807 ∧ Hid (Plain.res s.data.toList i false false = Plain.res s.data.toList k false nl)) (fun p _ => s.size - (intOf p).toNat)
  case atStart => exact ⟨i, false, rfl, rfl, hi, rfl⟩
  case round =>
    obtain ⟨k, nl, rfl, rfl, hk, H⟩ := hrel
    by_cases hlt : k < s.size
    · go_wp2_with (go_at_call 9; refine (hasp9 _ _).mono ?_; rintro e w' ⟨rfl, rfl⟩)
      rotate_left 6
      · -- the byte 11, no newline: no dash
        exfalso
        have hd : dd ((s.data.toList.drop k).take (s.size - k)) = true := by assumption
        have h45 := (u8_iff _ _).1 ((dd_iff hlt).1 hd).1
        have h11 : (s[k].toNat : Int) = 11 := by assumption
        rw [h11] at h45; exact absurd h45 (by decide)
      · go_ret
        refine ⟨ret_int ?_, rfl⟩
        rw [H.out]
        have h11 : (s[k].toNat : Int) = 11 := by assumption
        have hn : nl = false := by assumption
        exact (st_other hlt (by omega) (by omega) (fun e => by rw [hn] at e; simp at e; omega) (by assumption) (by omega)).symm
      · exfalso
        have hc : (((s[k].toNat : Int) == 32) = true ∨ ((s[k].toNat : Int) == 9) = true) ∨ ((s[k].toNat : Int) == 12) = true := by assumption
        simp only [beq_iff_eq] at hc
        omega
      · -- a comment
        have hd : dd ((s.data.toList.drop k).take (s.size - k)) = true := by assumption
        have H2 : Hid (Plain.res s.data.toList i false false = Plain.res s.data.toList (k + 1) true nl) := H.out.trans (st_dash hlt hd)
        clear H
        rw [hd]
        go_loop [1] (fun p => ∃ j : Nat, p = .int .i64 j ∧ k ≤ j ∧ j < s.size ∧ Hid (Plain.res s.data.toList i false false = Plain.res s.data.toList (j + 1) true nl)) (fun p => s.size - (intOf p).toNat)
        case atStart => exact ⟨k, rfl, Nat.le_refl _, hlt, H2⟩
        case round =>
          obtain ⟨j, rfl, hkj, hj, H3⟩ := hrel
          clear H2
          by_cases hj1 : j + 1 < s.size
          · go_wp2
            · go_round
              case rel => exact ⟨j + 1, nl, by go_num, rfl, by omega, H3.out.trans (st_stop hj1 (Or.inl (by assumption)))⟩
              case measure => simp [intOf]; omega
            · have hc : ((s[j + 1].toNat : Int) != 10) = true ∧ ((s[j + 1].toNat : Int) != 13) = true := by assumption
              rw [bne_iff_ne, bne_iff_ne] at hc
              go_round
              case rel => exact ⟨j + 1, by go_num, by omega, hj1, H3.out.trans (st_skip hj1 hc.1 hc.2)⟩
              case measure => simp [intOf]; omega
            · have hc : ((s[j + 1].toNat : Int) != 10) = false ∨ ((s[j + 1].toNat : Int) != 13) = false := by assumption
              rw [bne_eq_false_iff_eq, bne_eq_false_iff_eq] at hc
              go_round
              case rel => exact ⟨j + 1, nl, by go_num, rfl, by omega, H3.out.trans (st_stop hj1 hc)⟩
              case measure => simp [intOf]; omega
          · go_wp2
            go_round
            case rel => exact ⟨j + 1, nl, by go_num, rfl, by omega, H3.out.trans (st_stop_end (by omega))⟩
            case measure => simp [intOf]; omega
      · go_ret
        refine ⟨ret_int ?_, rfl⟩
        rw [H.out]
        exact (st_quote hlt (by assumption) (by assumption)).symm
      · go_ret
        refine ⟨ret_int ?_, rfl⟩
        rw [H.out]
        have h39 : (s[k].toNat : Int) = 39 := by assumption
        have hn : nl = false := by assumption
        exact (st_other hlt (by omega) (by omega) (by omega) (by assumption) (by rw [hn]; simp)).symm
      · go_ret
        refine ⟨ret_int ?_, rfl⟩
        rw [H.out]
        have hc : ((s[k].toNat : Int) == 10) = false ∧ ((s[k].toNat : Int) == 13) = false := by assumption
        rw [beq_eq_false_iff_ne, beq_eq_false_iff_ne] at hc
        exact (st_other hlt hc.1 hc.2 (by omega) (by assumption) (by omega)).symm
      · go_round
        case rel => exact ⟨k + 1, true, by go_num, rfl, by omega, H.out.trans (st_nl hlt false (Or.inl (by assumption)))⟩
        case measure => simp [intOf]; omega
      · have hc : ((s[k].toNat : Int) == 10) = true ∨ ((s[k].toNat : Int) == 13) = true := by assumption
        rw [beq_iff_eq, beq_iff_eq] at hc
        go_round
        case rel => exact ⟨k + 1, true, by go_num, rfl, by omega, H.out.trans (st_nl hlt false hc)⟩
        case measure => simp [intOf]; omega
      all_goals
        go_round
        case rel => exact ⟨k + 1, nl, by go_num, rfl, by omega, H.out.trans (st_ws hlt (by omega) (by omega) (by first | omega | exact Or.inr (Or.inr (Or.inr ⟨by assumption, by assumption⟩))))⟩
        case measure => simp [intOf]; omega
    · go_wp2
      go_ret
      exact ⟨ret_int (by rw [H.out, st_end _ (by omega)]), rfl⟩

end Go.Proofs.Qxb6601437a
