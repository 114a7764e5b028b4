import Derived.Test.Qxb6601879aCount
/-! The bounds laid by program: each answers something, and the world stays. -/
namespace Go.Proofs.Qxb6601879a
open Go.RowKit Go.Maps

/-- It answers some bool. -/
def SomeBool (e : Ending) : Prop := ∃ b, e = .returned (.bool b)
/-- It answers some int. -/
def SomeInt (e : Ending) : Prop := ∃ n, e = .returned (.int .i64 n)

/-- A slice of strings that came in. -/
def StrAt (w : World) (oa : Option Addr) (n kb ko : Nat) (S : Nat → ByteArray) : Prop :=
  (0 < n → oa = some ⟨kb, ko, none⟩) ∧ ∀ i, i < n → w.cell? ⟨kb, ko + i, none⟩ = some (.string (S i))
/-- A slice of ints that came in. -/
def IntAt (w : World) (oa : Option Addr) (n kb ko : Nat) (C : Nat → Int) : Prop :=
  (0 < n → oa = some ⟨kb, ko, none⟩) ∧ ∀ i, i < n → w.cell? ⟨kb, ko + i, none⟩ = some (.int .i64 (C i))

theorem StrAt.below {w w' : World} {oa : Option Addr} {n kb ko : Nat} {S : Nat → ByteArray} (h : StrAt w oa n kb ko S) (hb : Below w.heap.size w w') : StrAt w' oa n kb ko S :=
  ⟨h.1, fun i hi => (hb.cell (p := ⟨kb, ko + i, none⟩) (World.block_lt_of_cell? w _ (h.2 i hi))).trans (h.2 i hi)⟩
theorem IntAt.below {w w' : World} {oa : Option Addr} {n kb ko : Nat} {S : Nat → Int} (h : IntAt w oa n kb ko S) (hb : Below w.heap.size w w') : IntAt w' oa n kb ko S :=
  ⟨h.1, fun i hi => (hb.cell (p := ⟨kb, ko + i, none⟩) (World.block_lt_of_cell? w _ (h.2 i hi))).trans (h.2 i hi)⟩
theorem StrAt.nil (w : World) : StrAt w none 0 0 0 (fun _ => ByteArray.empty) := ⟨fun h => absurd h (Nat.lt_irrefl _), fun _ hi => absurd hi (Nat.not_lt_zero _)⟩

set_option maxHeartbeats 400000 in
theorem add32 (t k : Int) (w : World) : Calls Try.prog 32 #[.int .i64 t, .int .i64 k] w fun e w' => SomeInt e ∧ w' = w := by
  go_enter Try.func32, Try.ntmps32
  go_wp2
  all_goals (go_ret; exact ⟨⟨_, rfl⟩, rfl⟩)

set_option maxHeartbeats 400000 in
theorem words30 (t c d : Int) (hd : d = 8 ∨ d = 16) (w : World) : Calls Try.prog 30 #[.int .i64 t, .int .i64 c, .int .i64 d] w fun e w' => SomeInt e ∧ w' = w := by
  rcases hd with rfl | rfl
  all_goals
    go_enter Try.func30, Try.ntmps30
    go_wp2_with (go_at_call 32; refine (add32 _ _ _).mono ?_; rintro e w' ⟨⟨x, rfl⟩, rfl⟩)
    all_goals (go_ret; exact ⟨⟨_, rfl⟩, rfl⟩)

set_option maxHeartbeats 400000 in
theorem strings29 (t : Int) (oa : Option Addr) (n cap kb ko : Nat) (S : Nat → ByteArray) (hn : n ≤ maxLen) (w : World) (h : StrAt w oa n kb ko S) :
    Calls Try.prog 29 #[.int .i64 t, .slice oa n cap] w fun e w' => SomeInt e ∧ w' = w := by
  unfold maxLen at hn
  go_enter Try.func29, Try.ntmps29
  go_wp2_with (go_at_call 30; refine (words30 _ _ _ (.inr rfl) _).mono ?_; rintro e w' ⟨⟨x, rfl⟩, rfl⟩)
  go_loop [0, 5] (fun p q => ∃ (m : Int) (k : Nat), p = .int .i64 m ∧ q = .int .i64 k ∧ k ≤ n) (fun _ q => n - (intOf q).toNat)
  case atStart => exact ⟨_, 0, rfl, rfl, Nat.zero_le _⟩
  case round =>
    obtain ⟨m, k, rfl, rfl, hk⟩ := hrel
    by_cases hlt : k < n
    · have c1 := h.2 k hlt
      obtain rfl := h.1 (by omega)
      have hkI : (k : Int) < (n : Int) := by omega
      clear h
      go_wp2_with (go_at_call 32; refine (add32 _ _ _).mono ?_; rintro e w' ⟨⟨y, rfl⟩, rfl⟩)
      all_goals first
        | (go_ret; exact ⟨⟨_, rfl⟩, rfl⟩)
        | (go_round
           case rel => exact ⟨_, k + 1, rfl, by go_num, by omega⟩
           case measure => simp [intOf]; omega)
    · go_wp2
      go_ret
      exact ⟨⟨_, rfl⟩, rfl⟩

set_option maxHeartbeats 400000 in
theorem bytes21 (w : World) (oA oB oC : Option Addr) (nA cA nB cB nC cC ka ja kb jb : Nat) (A B : Nat → ByteArray) (hnA : nA ≤ maxLen) (hnB : nB ≤ maxLen) (hA : StrAt w oA nA ka ja A) (hB : StrAt w oB nB kb jb B) (a b : ByteArray) :
    Calls Try.prog 21 #[.slice oA nA cA, .slice oB nB cB, .slice oC nC cC, .slice none 0 0, .slice none 0 0, .string a, .string b] w fun e w' => SomeInt e ∧ w' = w := by
  go_enter Try.func21, Try.ntmps21
  go_wp2_with fail
  refine (strings29 _ oA nA cA ka ja A hnA _ hA).mono ?_
  rintro e w1 ⟨⟨x1, rfl⟩, rfl⟩
  go_wp2_with fail
  refine (strings29 _ oB nB cB kb jb B hnB _ hB).mono ?_
  rintro e w2 ⟨⟨x2, rfl⟩, rfl⟩
  go_wp2_with fail
  refine (words30 _ _ _ (.inl rfl) _).mono ?_
  rintro e w3 ⟨⟨x3, rfl⟩, rfl⟩
  go_wp2_with fail
  refine (strings29 _ none 0 0 0 0 _ (Nat.zero_le _) _ (StrAt.nil _)).mono ?_
  rintro e w4 ⟨⟨x4, rfl⟩, rfl⟩
  go_wp2_with fail
  refine (strings29 _ none 0 0 0 0 _ (Nat.zero_le _) _ (StrAt.nil _)).mono ?_
  rintro e w5 ⟨⟨x5, rfl⟩, rfl⟩
  go_wp2_with (go_at_call 32; refine (add32 _ _ _).mono ?_; rintro e w' ⟨⟨y, rfl⟩, rfl⟩)
  go_ret
  exact ⟨⟨_, rfl⟩, rfl⟩

/-- What the first bound says where it says yes: pairA is not long. -/
def Bounded (nA : Nat) (e : Ending) : Prop := ∃ b, e = .returned (.bool b) ∧ (b = true → nA ≤ 1048576)

set_option maxHeartbeats 1000000 in
theorem bytes20 (w : World) (oA oB oC : Option Addr) (nA cA nB cB nC cC ka ja kb jb : Nat) (A B : Nat → ByteArray) (hnB : nB ≤ maxLen) (hA : StrAt w oA nA ka ja A) (hB : StrAt w oB nB kb jb B) (a b : ByteArray) (n : Int) :
    Calls Try.prog 20 #[.slice oA nA cA, .slice oB nB cB, .slice oC nC cC, .string a, .string b, .int .i64 n] w fun e w' => Bounded nA e ∧ w' = w := by
  unfold maxLen at hnB
  by_cases hbig : nA ≤ 1048576
  rotate_left
  · go_enter Try.func20, Try.ntmps20
    go_wp2
    go_ret
    exact ⟨⟨_, rfl, fun e => by cases e⟩, rfl⟩
  go_enter Try.func20, Try.ntmps20
  go_upto_block 0 with fail
  go_cut [13] (fun p wx => (∃ m : Int, p = .int .i64 m ∧ 0 ≤ m ∧ m ≤ 1048576) ∧ wx = w)
  case first =>
    go_wp2_with fail
    go_loop [13, 14] (fun p q => ∃ (m : Int) (k : Nat), p = .int .i64 m ∧ q = .int .i64 k ∧ k ≤ nA ∧ 0 ≤ m ∧ m ≤ 1048576) (fun _ q => nA - (intOf q).toNat)
    case atStart => exact ⟨_, 0, rfl, rfl, Nat.zero_le _, by omega, by omega⟩
    case round =>
      obtain ⟨m, k, rfl, rfl, hk, hm0, hm1⟩ := hrel
      by_cases hlt : k < nA
      · have c1 := hA.2 k hlt
        obtain rfl := hA.1 (by omega)
        have hkI : (k : Int) < (nA : Int) := by omega
        clear hA hB
        generalize A k = s at *
        go_wp2
        all_goals first
          | (go_ret; exact ⟨⟨_, rfl, fun _ => hbig⟩, rfl⟩)
          | (go_round
             case rel => exact ⟨_, k + 1, rfl, by go_num, by omega, by omega, by omega⟩
             case measure => simp [intOf]; omega)
      · go_wp2_with fail
        go_meet
        exact ⟨⟨m, rfl, hm0, hm1⟩, rfl⟩
  case rest =>
  obtain ⟨⟨m, rfl, hm0, hm1⟩, rfl⟩ := hcut
  by_cases hbigB : nB ≤ 1048576
  rotate_left
  · go_wp2
    go_ret
    exact ⟨⟨_, rfl, fun _ => hbig⟩, rfl⟩
  by_cases hsum : m + nB ≤ 1048576
  rotate_left
  · go_wp2
    go_ret
    exact ⟨⟨_, rfl, fun _ => hbig⟩, rfl⟩
  go_upto_block 2 with fail
  go_cut [13] (fun p wx => (∃ m : Int, p = .int .i64 m ∧ 0 ≤ m ∧ m ≤ 1048576) ∧ wx = wc)
  case first =>
    go_wp2_with fail
    go_loop [13, 15] (fun p q => ∃ (m : Int) (k : Nat), p = .int .i64 m ∧ q = .int .i64 k ∧ k ≤ nB ∧ 0 ≤ m ∧ m ≤ 1048576) (fun _ q => nB - (intOf q).toNat)
    case atStart => exact ⟨_, 0, rfl, rfl, Nat.zero_le _, by omega, by omega⟩
    case round =>
      obtain ⟨m', k, rfl, rfl, hk, hm0', hm1'⟩ := hrel
      by_cases hlt : k < nB
      · have c1 := hB.2 k hlt
        obtain rfl := hB.1 (by omega)
        have hkI : (k : Int) < (nB : Int) := by omega
        clear hA hB
        generalize B k = s at *
        go_wp2
        all_goals first
          | (go_ret; exact ⟨⟨_, rfl, fun _ => hbig⟩, rfl⟩)
          | (go_round
             case rel => exact ⟨_, k + 1, rfl, by go_num, by omega, by omega, by omega⟩
             case measure => simp [intOf]; omega)
      · go_wp2_with fail
        go_meet
        exact ⟨⟨m', rfl, hm0', hm1'⟩, rfl⟩
  case rest =>
  obtain ⟨⟨m2, rfl, hm2, hm3⟩, rfl⟩ := hcut
  go_wp2
  all_goals (go_ret; exact ⟨⟨_, rfl, fun _ => hbig⟩, rfl⟩)

end Go.Proofs.Qxb6601879a
