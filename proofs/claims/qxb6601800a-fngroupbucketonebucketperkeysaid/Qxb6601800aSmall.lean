import Derived.Test.Qxb6601800aBucket
namespace Go.Proofs.Qxb6601800a
open Go.RowKit Go.Maps

/-- One key as it lies in memory: its kind, its name, its value. -/
abbrev K3 := Nat × ByteArray × ByteArray
def cells3 (k : K3) : List Value := [.int .u8 k.1, .string k.2.1, .string k.2.2]
def key3 (k : K3) : Key := keyFor k.1 k.2.1 k.2.2

/-- A group that was just made. -/
def zeroG : Array Value := #[.slice none 0 0, .slice none 0 0, .map none, .map none, .map none, .map none, .map none, .slice none 0 0, .slice none 0 0, .slice none 0 0]

theorem Grp.fresh0 (w : World) {base : Nat} (hb : base ≤ w.heap.size) : Grp (w.alloc (.cells zeroG 48)) base w.heap.size 0 [] [] zeroG (fun _ => none) (.slice none 0 0) where
  hg := heap_alloc_new w _
  base_g := hb
  len := rfl
  plain q hq := ⟨none, by rcases (show q = 0 ∨ q = 1 ∨ q = 2 ∨ q = 3 by omega) with rfl | rfl | rfl | rfl <;> rfl, fun b => ⟨(fun e => by cases e), (fun e => by cases e)⟩⟩
  vals := ⟨none, rfl, (fun _ b nm e => by cases e), (fun v e => by cases e)⟩
  bk := rfl
  row := World.ownsRow_nil _ _ _ _
  maps b ρ e := by cases e
  roles p hp := by cases hp
  one e := by cases e
  bks p hp := by cases hp

set_option maxHeartbeats 400000 in
theorem new20 (w : World) : Calls Try.prog 20 #[] w fun e w' => e = .returned (.pointer (some ⟨w.heap.size, 0, none⟩)) ∧ w' = w.alloc (.cells zeroG 48) := by
  go_enter Try.func20, Try.ntmps20
  go_wp2
  go_ret
  exact ⟨rfl, rfl⟩

set_option maxHeartbeats 400000 in
theorem buckets22 {w : World} {base g N : Nat} {L : List (Key × Nat)} {M : List Nat} {cs : Array Value} {role : Nat → Option (Nat × ByteArray)} {bv : Value} (h : Grp w base g N L M cs role bv) :
    Calls Try.prog 22 #[.pointer (some ⟨g, 0, none⟩)] w fun e w' => e = .returned bv ∧ w' = w := by
  have c9 := h.cell h.bk
  go_enter Try.func22, Try.ntmps22
  go_wp2
  go_ret
  exact ⟨rfl, rfl⟩

set_option maxHeartbeats 400000 in
theorem bucket21 {w : World} {base g N : Nat} {L : List (Key × Nat)} {M : List Nat} {cs : Array Value} {role : Nat → Option (Nat × ByteArray)} {bv : Value} (h : Grp w base g N L M cs role bv)
    (q : Nat) (hq : q ≤ 4) (nm vl : ByteArray) (hnm : nm.size ≤ maxLen) (hvl : vl.size ≤ maxLen) (hN : N + 2 < maxLen) (hM : M.length ≤ 4096) (hbase : base ≤ w.heap.size) :
    Calls Try.prog 21 #[.pointer (some ⟨g, 0, none⟩), .int .u8 q, .string nm, .string vl] w fun e w' => Bucketed w w' base g N L M bv (keyFor q nm vl) e := by
  go_enter Try.func21, Try.ntmps21
  go_wp2_with (go_at_call 28; refine (bucket28 h q hq nm vl hnm hvl hN hM hbase).mono ?_; rintro e w' ⟨b, L', M', cs', role', bv', rfl, r⟩)
  go_ret
  exact ⟨b, L', M', cs', role', bv', rfl, r⟩

/-- It answers some bool. -/
def SomeBool (e : Ending) : Prop := ∃ b, e = .returned (.bool b)

set_option maxHeartbeats 400000 in
theorem bytes19 (w : World) (oa : Option Addr) (kb ko n cap : Nat) (X : Nat → K3) (hoa : 0 < n → oa = some ⟨kb, ko, none⟩)
    (h1 : ∀ i, i < n → w.cell? ⟨kb, ko + i * 3 + 1, none⟩ = some (.string (X i).2.1)) (h2 : ∀ i, i < n → w.cell? ⟨kb, ko + i * 3 + 2, none⟩ = some (.string (X i).2.2)) :
    Calls Try.prog 19 #[.slice oa n cap] w fun e w' => SomeBool e ∧ w' = w := by
  by_cases hbig : n ≤ 1048576
  · go_enter Try.func19, Try.ntmps19
    go_wp2
    go_loop [3, 4] (fun p q => ∃ (k : Nat) (m : Int), p = .int .i64 m ∧ q = .int .i64 k ∧ k ≤ n ∧ 0 ≤ m ∧ m ≤ 1048576) (fun _ q => n - (intOf q).toNat)
    case atStart => exact ⟨0, n, rfl, rfl, Nat.zero_le _, by omega, by omega⟩
    case round =>
      obtain ⟨k, m, rfl, rfl, hk, hm0, hm1⟩ := hrel
      by_cases hlt : k < n
      · have c1 := h1 k hlt
        have c2 := h2 k hlt
        obtain rfl := hoa (by omega)
        clear h1 h2 hoa
        generalize (X k).2.1 = nm at *
        generalize (X k).2.2 = vl at *
        have hkI : (k : Int) < (n : Int) := by omega
        go_wp2
        all_goals first
          | (go_ret; exact ⟨⟨_, rfl⟩, rfl⟩)
          | (go_round
             case rel => exact ⟨k + 1, _, rfl, by go_num, by omega, by omega, by omega⟩
             case measure => simp [intOf]; omega)
      · clear hoa
        go_wp2
        go_ret
        exact ⟨⟨_, rfl⟩, rfl⟩
  · go_enter Try.func19, Try.ntmps19
    go_wp2
    go_ret
    exact ⟨⟨_, rfl⟩, rfl⟩

/-- The cells of a list of keys. -/
def flat (ks : List K3) : List Value := ks.flatMap cells3

theorem flat_length (ks : List K3) : (flat ks).length = ks.length * 3 := by
  induction ks with
  | nil => rfl
  | cons k r ih => simp only [flat, List.flatMap_cons, List.length_append, List.length_cons] at ih ⊢; rw [ih]; simp [cells3]; omega

theorem flat_at : ∀ (ks : List K3) (i r : Nat) (k : K3), ks[i]? = some k → r < 3 → (flat ks)[i * 3 + r]? = (cells3 k)[r]?
  | [], i, r, k, h, _ => by simp at h
  | k0 :: ks, 0, r, k, h, hr => by
    obtain rfl : k0 = k := by simpa using h
    simp only [flat, List.flatMap_cons]
    rw [Nat.zero_mul, Nat.zero_add, List.getElem?_append_left (by simpa [cells3] using hr)]
  | k0 :: ks, i + 1, r, k, h, hr => by
    have ih := flat_at ks i r k (by simpa using h) hr
    simp only [flat, List.flatMap_cons] at ih ⊢
    rw [List.getElem?_append_right (by simp [cells3]; omega), ← ih]
    congr 1
    simp [cells3]; omega

theorem flat_one (ks : List K3) : ∀ u ∈ flat ks, u.oneCell' = true := by
  intro u hu
  obtain ⟨k, _, hk⟩ := List.mem_flatMap.1 hu
  simp [cells3] at hk
  rcases hk with rfl | rfl | rfl <;> rfl

theorem flat_snoc (ks : List K3) (k : K3) : flat (ks ++ [k]) = flat ks ++ cells3 k := by simp [flat]

/-- The elements of an owned row of keys, cell by cell. -/
theorem flat_cells {w : World} {base : Nat} {v : Value} {ks : List K3} (h : w.ownsRow base 29 3 v ks.length (flat ks)) {i : Nat} {k : K3} (hi : ks[i]? = some k) :
    ∃ g cap, v = .slice (some ⟨g, 0, none⟩) ks.length cap ∧ base ≤ g ∧ w.cell? ⟨g, i * 3, none⟩ = some (.int .u8 k.1) ∧ w.cell? ⟨g, i * 3 + 1, none⟩ = some (.string k.2.1) ∧ w.cell? ⟨g, i * 3 + 2, none⟩ = some (.string k.2.2) := by
  have hil : i < ks.length := (List.getElem?_eq_some_iff.1 hi).1
  rcases h.2 with ⟨_, h0⟩ | ⟨g, cap, cur, rfl, hb, hg, _⟩
  · omega
  · have key : ∀ r u, r < 3 → (cells3 k)[r]? = some u → w.cell? ⟨g, i * 3 + r, none⟩ = some u := by
      intro r u hr hu
      have := h.cells (g := g) rfl (i * 3 + r) u (by rw [flat_at ks i r k hi hr]; exact hu)
      have hadd : (⟨g, 0, none⟩ : Addr).add (i * 3 + r) = ⟨g, i * 3 + r, none⟩ := by unfold Addr.add; split <;> simp_all
      rwa [hadd] at this
    exact ⟨g, cap, rfl, hb, key 0 _ (by omega) rfl, key 1 _ (by omega) rfl, key 2 _ (by omega) rfl⟩

/-- 'copy' of elements of three cells. -/
theorem run_copy3 {P : Program} (w : World) (dT sT ty elem : TypeId) (g dLen dCap : Nat) (a : Addr) (sLen sCap : Nat) (cur : Array Value) (t : TypeId) (cs : List Value)
    (hu : P.underlying dT = some (.slice elem)) (hs : (P.info? elem).map (·.size) = some 3)
    (hg : w.heap[g]? = some (.cells cur t (0, 0))) (hn : cs.length = Nat.min sLen dLen * 3)
    (hsrc : ∀ j v, cs[j]? = some v → w.cell? (a.add j) = some v) (hfit : cs.length ≤ cur.size) (h1 : ∀ v ∈ cs, v.oneCell' = true) :
    (Builtin.copy_ #[dT, sT] ty #[.slice (some ⟨g, 0, none⟩) dLen dCap, .slice (some a) sLen sCap]).run P w =
      .ok (goInt (Nat.min sLen dLen)) (w.setRow g (cs ++ cur.toList.drop cs.length).toArray) := by
  have hf := run_firstCells_some (P := P) w 3 (Nat.min sLen dLen) a sLen sCap cs hn hsrc
  have hst := run_storeCells_at P g 0 t cs 0 cur w hg (by simpa using hfit) h1
  cases hq : P.info? elem with
  | none => simp [hq] at hs
  | some i =>
    have hi : i.size = 3 := by simpa [hq] using hs
    simp at hst
    simp [Builtin.copy_, run_underlying hu, Builtin.lenOf, sizeOf, typeInfo, hq, hi, hf, hst]

end Go.Proofs.Qxb6601800a
