import Derived.Test.Qxb6601437aCont
namespace Go.Proofs.Qxb6601437a
open Go.RowKit

set_option maxHeartbeats 400000 in
theorem cont6 (s : ByteArray) (i : Int) (w : World) (hs : s.size ≤ 2097152) (h0 : 0 ≤ i) (hi : i ≤ 9223372036854775807) :
    Calls Try.prog 6 #[.string s, .int .i64 i] w fun e w' => e = .returned (.int .i64 (Plain.res s.data.toList i.toNat false false)) ∧ w' = w := by
  obtain ⟨n, rfl⟩ := Int.eq_ofNat_of_zero_le h0
  rw [Int.toNat_natCast]
  go_enter Try.func6, Try.ntmps6
  go_wp2_with (go_at_call 8; refine (cont8 _ _ _ hs (by omega)).mono ?_; rintro e w' ⟨rfl, rfl⟩)
  go_ret
  exact ⟨rfl, rfl⟩

/-- The bound that was laid by program. -/
def bnd (a b : Nat) : Bool := decide (a + b ≤ 1048576)
theorem bnd_mk {a b : Nat} (h : a + b ≤ 1048576) : bnd a b = true := by simp [bnd, h]
theorem bnd_no {a b : Nat} (h : 1048576 < a + b) : bnd a b = false := by simp [bnd]; omega

set_option maxHeartbeats 400000 in
theorem bytes5 (a b : ByteArray) (i : Int) (w : World) (ha : a.size ≤ maxLen) (hb : b.size ≤ maxLen) :
    Calls Try.prog 5 #[.string a, .string b, .int .i64 i] w fun e w' => e = .returned (.bool (bnd a.size b.size)) ∧ w' = w := by
  unfold maxLen at ha hb
  go_enter Try.func5, Try.ntmps5
  go_wp2
  all_goals go_ret
  all_goals refine ⟨ret_bool ?_, rfl⟩
  all_goals first | exact (bnd_mk (by omega)).symm | exact (bnd_no (by omega)).symm

set_option maxHeartbeats 400000 in
theorem bytes7 (a b : ByteArray) (i : Int) (w : World) (ha : a.size ≤ maxLen) (hb : b.size ≤ maxLen) :
    Calls Try.prog 7 #[.string a, .string b, .int .i64 i] w fun e w' => e = .returned (.bool (bnd a.size b.size)) ∧ w' = w := by
  unfold maxLen at ha hb
  go_enter Try.func7, Try.ntmps7
  go_wp2
  all_goals go_ret
  all_goals refine ⟨ret_bool ?_, rfl⟩
  all_goals first | exact (bnd_mk (by omega)).symm | exact (bnd_no (by omega)).symm

theorem res_bd (s : ByteArray) (i : Nat) : -1 ≤ Plain.res s.data.toList i false false ∧ Plain.res s.data.toList i false false ≤ s.size := by
  by_cases h : Plain.res s.data.toList i false false = -1
  · omega
  · obtain ⟨r, e, _, hl, _⟩ := Plain.res_found s.data.toList [] i h
    rw [← size_eq] at hl; omega

theorem append_data (a b : ByteArray) : (a ++ b).data.toList = a.data.toList ++ b.data.toList := by simp

theorem two_res (a b : ByteArray) (i : Int) (h : 0 ≤ i) : Plain.res (a ++ b).data.toList ((a.size : Int) + i).toNat false false =
    if Plain.res b.data.toList i.toNat false false = -1 then -1 else Plain.res b.data.toList i.toNat false false + a.size := by
  rw [show ((a.size : Int) + i).toNat = a.data.toList.length + i.toNat from by rw [← size_eq]; omega, append_data, Plain.res_front, ← size_eq]

set_option maxHeartbeats 400000 in
theorem law3_no (a0 a1 : ByteArray) (a2 : Int) (w0 : a0.size ≤ maxLen) (w1 : a1.size ≤ maxLen) (w : World) (hb : 1048576 < a0.size + a1.size) :
    Calls Try.prog 3 #[.string a0, .string a1, .int .i64 a2] w fun e w' => e = .returned (.bool true) ∧ w' = w := by
  have H := bnd_no hb
  go_enter Try.func3, Try.ntmps3
  go_wp2_with (go_at_call 5; refine (bytes5 _ _ _ _ w0 w1).mono ?_; rintro e w' ⟨rfl, rfl⟩)
  go_ret
  exact ⟨rfl, rfl⟩

set_option maxHeartbeats 400000 in
theorem law3_yes (a0 a1 : ByteArray) (a2 : Int) (w0 : a0.size ≤ maxLen) (w1 : a1.size ≤ maxLen) (w2 : -9223372036854775808 ≤ a2 ∧ a2 ≤ 9223372036854775807) (w : World) (hb : a0.size + a1.size ≤ 1048576) :
    Calls Try.prog 3 #[.string a0, .string a1, .int .i64 a2] w fun e w' => e = .returned (.bool true) ∧ w' = w := by
  have H := bnd_mk hb
  obtain ⟨w2a, w2b⟩ := w2
  by_cases h0 : 0 ≤ a2
  · by_cases hi : a2 ≤ 9223372036854775807 - a0.size
    · go_enter Try.func3, Try.ntmps3
      go_wp2_with (go_at_call 5; refine (bytes5 _ _ _ _ w0 w1).mono ?_; rintro e w' ⟨rfl, rfl⟩)
      refine (cont6 _ _ _ (by omega) h0 w2b).mono ?_
      rintro e w' ⟨rfl, rfl⟩
      go_wp2_with fail
      refine (cont6 _ _ _ (by rw [ByteArray.size_append]; omega) (by omega) (by omega)).mono ?_
      rintro e w' ⟨rfl, rfl⟩
      rw [two_res a0 a1 a2 h0]
      obtain ⟨hr1, hr2⟩ := res_bd a1 a2.toNat
      generalize Plain.res a1.data.toList a2.toNat false false = r at *
      by_cases hr : r = -1
      · subst hr
        rw [if_pos rfl]
        go_wp2
        go_ret
        exact ⟨rfl, rfl⟩
      · rw [if_neg hr]
        have hrb : (r == -1) = false := by simp [hr]
        go_wp2
        go_ret
        exact ⟨ret_bool (by simp), rfl⟩
    · go_enter Try.func3, Try.ntmps3
      go_wp2_with (go_at_call 5; refine (bytes5 _ _ _ _ w0 w1).mono ?_; rintro e w' ⟨rfl, rfl⟩)
      go_ret
      exact ⟨rfl, rfl⟩
  · go_enter Try.func3, Try.ntmps3
    go_wp2_with (go_at_call 5; refine (bytes5 _ _ _ _ w0 w1).mono ?_; rintro e w' ⟨rfl, rfl⟩)
    go_ret
    exact ⟨rfl, rfl⟩

set_option maxHeartbeats 400000 in
theorem law4_no (a0 a1 : ByteArray) (a2 : Int) (w0 : a0.size ≤ maxLen) (w1 : a1.size ≤ maxLen) (w : World) (hb : 1048576 < a0.size + a1.size) :
    Calls Try.prog 4 #[.string a0, .string a1, .int .i64 a2] w fun e w' => e = .returned (.bool true) ∧ w' = w := by
  have H := bnd_no hb
  go_enter Try.func4, Try.ntmps4
  go_wp2_with (go_at_call 7; refine (bytes7 _ _ _ _ w0 w1).mono ?_; rintro e w' ⟨rfl, rfl⟩)
  go_ret
  exact ⟨rfl, rfl⟩

theorem cut_data (a t : ByteArray) (r : Nat) : (a.extract 0 (r + 1) ++ t).data.toList = a.data.toList.take (r + 1) ++ t.data.toList := by
  rw [append_data, extract_data, List.drop_zero, Nat.sub_zero]

set_option maxHeartbeats 400000 in
theorem law4_yes (a0 a1 : ByteArray) (a2 : Int) (w0 : a0.size ≤ maxLen) (w1 : a1.size ≤ maxLen) (w2 : -9223372036854775808 ≤ a2 ∧ a2 ≤ 9223372036854775807) (w : World) (hb : a0.size + a1.size ≤ 1048576) :
    Calls Try.prog 4 #[.string a0, .string a1, .int .i64 a2] w fun e w' => e = .returned (.bool true) ∧ w' = w := by
  have H := bnd_mk hb
  obtain ⟨w2a, w2b⟩ := w2
  by_cases h0 : 0 ≤ a2
  · by_cases hr : Plain.res a0.data.toList a2.toNat false false = -1
    · have HR : Hid (Plain.res a0.data.toList a2.toNat false false = -1) := hr
      clear hr
      go_enter Try.func4, Try.ntmps4
      go_wp2_with (go_at_call 7; refine (bytes7 _ _ _ _ w0 w1).mono ?_; rintro e w' ⟨rfl, rfl⟩)
      refine (cont6 _ _ _ (by omega) h0 w2b).mono ?_
      rintro e w' ⟨rfl, rfl⟩
      rw [HR.out]
      go_wp2
      go_ret
      exact ⟨rfl, rfl⟩
    · obtain ⟨r, hr1, hr2, hr3, hr4, hr5⟩ := Plain.res_found a0.data.toList a1.data.toList a2.toNat hr
      rw [← size_eq] at hr3
      rw [at_k hr3] at hr4
      have h39 : (a0[r].toNat : Int) = 39 := by rw [Option.some.inj hr4]; rfl
      have hb39 : ((a0[r].toNat : Int) != 39) = false := by simp [h39]
      have hai : a2 ≤ r := by omega
      have HR : Hid (Plain.res a0.data.toList a2.toNat false false = r) := hr1
      have HR5 : Hid (Plain.res (a0.data.toList.take (r + 1) ++ a1.data.toList) a2.toNat false false = r) := hr5
      clear hr hr1 hr4 hr5 h39
      go_enter Try.func4, Try.ntmps4
      go_wp2_with (go_at_call 7; refine (bytes7 _ _ _ _ w0 w1).mono ?_; rintro e w' ⟨rfl, rfl⟩)
      refine (cont6 _ _ _ (by omega) h0 w2b).mono ?_
      rintro e w' ⟨rfl, rfl⟩
      rw [HR.out]
      go_wp2_with fail
      refine (cont6 _ _ _ (by rw [ByteArray.size_append, ByteArray.size_extract]; omega) h0 w2b).mono ?_
      rintro e w' ⟨rfl, rfl⟩
      rw [cut_data, HR5.out]
      go_wp2
      go_ret
      exact ⟨ret_bool (by simp), rfl⟩
  · go_enter Try.func4, Try.ntmps4
    go_wp2_with (go_at_call 7; refine (bytes7 _ _ _ _ w0 w1).mono ?_; rintro e w' ⟨rfl, rfl⟩)
    go_ret
    exact ⟨rfl, rfl⟩

end Go.Proofs.Qxb6601437a
