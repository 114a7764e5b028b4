import Derived.Test.Qxb6601800aSmall
import Derived.Deep.LoopGhost
import Derived.Laws.CopyOwn
import Derived.LaidEql
namespace Go.Proofs.Qxb6601800a
open Go.RowKit Go.Maps

theorem neq26 (w : World) (a : Option Addr) (n c : Nat) : (binOp .neq 26 (.slice a n c) (.slice none 0 0)).run Try.prog w = .ok (.bool (!a.isNone)) w := run_neq_slice_nil_any w 26 29 a n c 0 0 Try.underlying26

theorem info29 : (Try.prog.info? 29).map (fun i => (i.zero, i.size, i.bytes)) = some (some (.agg #[.int .u8 0, .string ByteArray.empty, .string ByteArray.empty]), 3, 40) := by kernel_rfl

/-- The cells of a new row of n keys. -/
def made26 (n : Nat) : Array Value := madeCells (Value.agg #[.int .u8 0, .string ByteArray.empty, .string ByteArray.empty]).cells (n * 3)
theorem made26_size (n : Nat) : (made26 n).size = n * 3 := size_madeCells _ _

theorem make26 {n : Nat} (hn : n ≤ 4096) (w : World) : (Instr.makeSlice 26 (.int .i64 n) (.int .i64 n)).run Try.prog w = .ok (.slice (some ⟨w.heap.size, 0, none⟩) n n) (w.alloc (.cells (made26 n) 29)) := by
  obtain ⟨i, hi, hz, hs, hb⟩ := info_parts info29
  have := run_make (P := Try.prog) w 26 29 i _ Try.underlying26 hi hz .i64 .i64 n n (by omega) (Int.le_refl _) (by rw [hb]; omega) (by omega)
  rw [this, hs]; rfl

theorem copy26 (W : World) (a : Addr) (n cap : Nat) (ks : List K3) (hl : ks.length = n) (hsrc : ∀ j v, (flat ks)[j]? = some v → W.cell? (a.add j) = some v) :
    Sem.run Try.prog (Builtin.copy_ #[26, 26] 3 #[.slice (some ⟨W.heap.size, 0, none⟩) n n, .slice (some a) n cap]) (W.alloc (.cells (made26 n) 29)) =
      .ok (goInt n) ((W.alloc (.cells (made26 n) 29)).setRow W.heap.size (flat ks).toArray) := by
  have h := run_copy3 (P := Try.prog) (W.alloc (.cells (made26 n) 29)) 26 26 3 29 W.heap.size n n a n cap (made26 n) 29 (flat ks) Try.underlying26 (by kernel_rfl) (heap_alloc_new W _)
    (by rw [flat_length, hl]; simp) (fun j v hj => ?_) (by rw [flat_length, hl, made26_size]; exact Nat.le_refl _) (flat_one ks)
  · rw [h]
    have e : (made26 n).toList.drop (flat ks).length = [] := List.drop_eq_nil_of_le (by rw [flat_length, hl, Array.length_toList, made26_size]; exact Nat.le_refl _)
    rw [e, List.append_nil]
    simp
  · have hc := hsrc j v hj
    rw [← hc]
    exact World.cell?_of_block (Below.heap_alloc W _ _ (World.block_lt_of_cell? W _ hc))

theorem keys_made (W : World) (n : Nat) (ks : List K3) (hl : ks.length = n) (hn : n ≤ maxLen) :
    ((W.alloc (.cells (made26 n) 29)).setRow W.heap.size (flat ks).toArray).ownsRow W.heap.size 29 3 (.slice (some ⟨W.heap.size, 0, none⟩) n n) n (flat ks) := by
  refine ⟨by rw [flat_length, hl], .inr ⟨W.heap.size, n, (flat ks).toArray, rfl, Nat.le_refl _, setRow_heap _ _ (made26 n) _ 29 (0, 0) (heap_alloc_new W _), Nat.le_refl _, hn, by simp [flat_length, hl], ?_⟩⟩
  rw [List.toList_toArray, List.take_of_length_le (by rw [flat_length, hl]; exact Nat.le_refl _)]

theorem add_lit (b o j : Nat) : (⟨b, o, none⟩ : Addr).add j = ⟨b, o + j, none⟩ := by unfold Addr.add; split <;> simp_all

theorem arg_src {w : World} {a : Addr} {kb ko n : Nat} {X : Nat → K3} (hoa : 0 < n → some a = some ⟨kb, ko, none⟩)
    (h0 : ∀ i, i < n → w.cell? ⟨kb, ko + i * 3, none⟩ = some (.int .u8 (X i).1))
    (h1 : ∀ i, i < n → w.cell? ⟨kb, ko + i * 3 + 1, none⟩ = some (.string (X i).2.1)) (h2 : ∀ i, i < n → w.cell? ⟨kb, ko + i * 3 + 2, none⟩ = some (.string (X i).2.2))
    {j : Nat} {v : Value} (hj : (flat ((List.range n).map X))[j]? = some v) : w.cell? (a.add j) = some v := by
  have hlt : j < n * 3 := by
    have := (List.getElem?_eq_some_iff.1 hj).1
    simpa [flat_length] using this
  have hi : j / 3 < n := by omega
  have hk : ((List.range n).map X)[j / 3]? = some (X (j / 3)) := by simp [hi]
  have e := flat_at _ (j / 3) (j % 3) _ hk (Nat.mod_lt _ (by omega))
  rw [show j / 3 * 3 + j % 3 = j by omega, hj] at e
  cases hoa (by omega)
  rw [add_lit]
  rcases (show j % 3 = 0 ∨ j % 3 = 1 ∨ j % 3 = 2 by omega) with hr | hr | hr
  · rw [hr] at e
    have := h0 (j / 3) hi
    rw [show ko + j / 3 * 3 = ko + j by omega] at this
    rw [this, e]; rfl
  · rw [hr] at e
    have := h1 (j / 3) hi
    rw [show ko + j / 3 * 3 + 1 = ko + j by omega] at this
    rw [this, e]; rfl
  · rw [hr] at e
    have := h2 (j / 3) hi
    rw [show ko + j / 3 * 3 + 2 = ko + j by omega] at this
    rw [this, e]; rfl

theorem make26s {n : Nat} (hn : n ≤ 4096) (w : World) : (Instr.makeSlice 26 (.int .i64 0) (.int .i64 n)).run Try.prog w = .ok (.slice (some ⟨w.heap.size, 0, none⟩) 0 n) (w.alloc (.cells (made26 n) 29)) := by
  obtain ⟨i, hi, hz, hs, hb⟩ := info_parts info29
  have := run_make (P := Try.prog) w 26 29 i _ Try.underlying26 hi hz .i64 .i64 0 n (by omega) (by omega) (by rw [hb]; omega) (by omega)
  rw [this, hs]; rfl

def made32 (n : Nat) : Array Value := madeCells (Value.pointer none).cells (n * 1)
theorem made32_size (n : Nat) : (made32 n).size = n := by rw [made32, size_madeCells]; omega
theorem make32s {n : Nat} (hn : n ≤ 4096) (w : World) : (Instr.makeSlice 32 (.int .i64 0) (.int .i64 n)).run Try.prog w = .ok (.slice (some ⟨w.heap.size, 0, none⟩) 0 n) (w.alloc (.cells (made32 n) 33)) := by
  obtain ⟨i, hi, hz, hs, hb⟩ := info_parts info33
  have := run_make (P := Try.prog) w 32 33 i _ Try.underlying32 hi hz .i64 .i64 0 n (by omega) (by omega) (by rw [hb]; omega) (by omega)
  rw [this, hs]; rfl

/-- The keys as the call's own row. -/
def Keys (w : World) (n : Nat) (X : Nat → K3) (kv : Value) (wx : World) : Prop :=
  ∃ oa cap, kv = .slice oa n cap ∧ wx.ownsRow w.heap.size 29 3 kv n (flat ((List.range n).map X)) ∧ Below w.heap.size w wx

/-- THE STATE AFTER i ROUNDS of the law's main loop. ks: the keys seen, each once; M: their buckets' blocks. -/
def St (w : World) (g n : Nat) (X : Nat → K3) (kv : Value) (i : Nat) (v8 v9 : Value) (wr : World) : Prop :=
  ∃ (ks : List K3) (L : List (Key × Nat)) (M : List Nat) (cs : Array Value) (role : Nat → Option (Nat × ByteArray)) (bv : Value) (o8 : Option Addr) (c8 : Nat) (o9 : Option Addr) (c9 : Nat),
    v8 = .slice o8 ks.length c8 ∧ v9 = .slice o9 M.length c9 ∧ Grp wr w.heap.size g (2 * i) L M cs role bv ∧
    wr.ownsRow w.heap.size 29 3 kv n (flat ((List.range n).map X)) ∧ wr.ownsRow w.heap.size 29 3 (.slice o8 ks.length c8) ks.length (flat ks) ∧ wr.ownsRow w.heap.size 33 1 (.slice o9 M.length c9) M.length (M.map ptr) ∧
    L = (ks.map key3).zip M ∧ ks.length = M.length ∧ M.length ≤ i ∧ (∀ k ∈ ks, k.1 ≤ 4) ∧
    (∀ b, kv.ownBlock = some b → (Value.slice o8 ks.length c8).ownBlock ≠ some b) ∧ (∀ b, (Value.slice o9 M.length c9).ownBlock = some b → bv.ownBlock ≠ some b) ∧ Below w.heap.size w wr

theorem keys_at {w : World} {base n cap : Nat} {oa : Option Addr} {X : Nat → K3} (h : w.ownsRow base 29 3 (.slice oa n cap) n (flat ((List.range n).map X))) {i : Nat} (hi : i < n) :
    ∃ g, oa = some ⟨g, 0, none⟩ ∧ base ≤ g ∧ w.cell? ⟨g, i * 3, none⟩ = some (.int .u8 (X i).1) ∧ w.cell? ⟨g, i * 3 + 1, none⟩ = some (.string (X i).2.1) ∧ w.cell? ⟨g, i * 3 + 2, none⟩ = some (.string (X i).2.2) := by
  have h' : w.ownsRow base 29 3 (.slice oa n cap) ((List.range n).map X).length (flat ((List.range n).map X)) := by simpa using h
  obtain ⟨g, cap', e, r1, r2, r3, r4⟩ := flat_cells h' (i := i) (k := X i) (by simp [hi])
  have e' : oa = some ⟨g, 0, none⟩ := by injection e
  exact ⟨g, e', r1, r2, r3, r4⟩

theorem row_turned {w1 w2 : World} {base g N : Nat} {L : List (Key × Nat)} {M : List Nat} {cs : Array Value} {role : Nat → Option (Nat × ByteArray)} {bv : Value} (hG : Grp w1 base g N L M cs role bv) (hT : Turned w1 w2 base g bv)
    {e : TypeId} {size : Nat} {v : Value} {n : Nat} {xs : List Value} (h : w1.ownsRow base e size v n xs) (he : e ≠ 48) (hd : ∀ k, v.ownBlock = some k → bv.ownBlock ≠ some k) : w2.ownsRow base e size v n xs := by
  refine row_same h (fun k hk => hT.block k (h.lt k hk).2 ?_)
  obtain ⟨cur, hc⟩ := row_block h hk
  rintro ⟨_, hm | hm | ⟨es, c, hm⟩⟩
  · rw [hm, hG.hg] at hc; cases hc; exact he rfl
  · exact hd k hk hm.symm
  · rw [hc] at hm; cases hm

theorem row_apart {w1 : World} {base g N : Nat} {L : List (Key × Nat)} {M : List Nat} {cs : Array Value} {role : Nat → Option (Nat × ByteArray)} {bv : Value} (hG : Grp w1 base g N L M cs role bv)
    {e : TypeId} {size : Nat} {v : Value} {n : Nat} {xs : List Value} (h : w1.ownsRow base e size v n xs) (he : e ≠ 33) : ∀ k, v.ownBlock = some k → bv.ownBlock ≠ some k := by
  intro k hk hb
  obtain ⟨cur, hc⟩ := row_block h hk
  obtain ⟨cur', hc'⟩ := row_block hG.row hb
  rw [hc] at hc'
  cases hc'
  exact he rfl

/-- BEHIND THE CALL OF 'bucket': what the law itself owns stands. -/
theorem mid {w wr w2 : World} {g N n : Nat} {L : List (Key × Nat)} {M : List Nat} {cs : Array Value} {role : Nat → Option (Nat × ByteArray)} {bv bv' kv v8 v9 : Value} {n8 n9 : Nat} {xs x8 x9 : List Value} {box : Array Value}
    (hG : Grp wr w.heap.size g N L M cs role bv) (hkv : wr.ownsRow w.heap.size 29 3 kv n xs) (h8 : wr.ownsRow w.heap.size 29 3 v8 n8 x8) (h9 : wr.ownsRow w.heap.size 33 1 v9 n9 x9)
    (hd2 : ∀ b, v9.ownBlock = some b → bv.ownBlock ≠ some b) (hbel : Below w.heap.size w wr) (hT : Turned (wr.alloc (.cells box 29)) w2 w.heap.size g bv)
    (hbv : ∀ k, bv'.ownBlock = some k → bv.ownBlock = some k ∨ (wr.alloc (.cells box 29)).heap.size ≤ k) :
    w2.ownsRow w.heap.size 29 3 kv n xs ∧ w2.ownsRow w.heap.size 29 3 v8 n8 x8 ∧ w2.ownsRow w.heap.size 33 1 v9 n9 x9 ∧ w2.heap[wr.heap.size]? = some (.cells box 29 (0, 0)) ∧ Below w.heap.size w w2 ∧
      (∀ b, v9.ownBlock = some b → bv'.ownBlock ≠ some b) := by
  have hG1 := hG.alloc (.cells box 29)
  refine ⟨row_turned hG1 hT (hkv.alloc _) (by decide) (row_apart hG1 (hkv.alloc _) (by decide)), row_turned hG1 hT (h8.alloc _) (by decide) (row_apart hG1 (h8.alloc _) (by decide)), row_turned hG1 hT (h9.alloc _) (by decide) hd2, ?_, ?_, ?_⟩
  · have e : (wr.alloc (.cells box 29)).heap[wr.heap.size]? = some (.cells box 29 (0, 0)) := heap_alloc_new wr _
    rw [hT.block _ (Array.getElem?_eq_some_iff.1 e).1 ?_, e]
    rintro ⟨_, hm | hm | ⟨es, c, hm⟩⟩
    · have := hG.glt; omega
    · have := (hG.row.lt _ hm.symm).2; omega
    · rw [e] at hm; cases hm
  · refine (hbel.alloc hbel.size (.cells box 29)).trans ⟨hT.os, hT.tape, hT.output, hT.size, fun k hk => hT.block k ?_ (fun hm => ?_)⟩
    · have := hbel.size; simp; omega
    · have := hm.1; omega
  · intro b hb e
    rcases hbv b e with h1 | h1
    · exact hd2 b hb h1
    · have := (h9.lt b hb).2
      simp at h1; omega

theorem bytes_eq {a b : ByteArray} (h : a.toList = b.toList) : a = b := by
  rw [ByteArray.toList_eq, ByteArray.toList_eq] at h
  obtain ⟨⟨l⟩⟩ := a
  obtain ⟨⟨m⟩⟩ := b
  exact congrArg (fun l : List UInt8 => (⟨⟨l⟩⟩ : ByteArray)) h

/-- WHAT THE SEARCH COMES TO: the first key seen that is this key, or none. -/
def Fnd (ks : List K3) (k : K3) (f : Value) : Prop :=
  (f = .int .i64 (-1) ∧ ∀ k' ∈ ks, key3 k' ≠ key3 k) ∨
  ∃ (j : Nat) (k' : K3), f = .int .i64 j ∧ ks[j]? = some k' ∧ key3 k' = key3 k ∧ ∀ j', j' < j → ∀ k'', ks[j']? = some k'' → key3 k'' ≠ key3 k

theorem key3_eq {a b : K3} (h : a.1 = b.1) (h' : a.2.1 = b.2.1) (h'' : b.1 ≠ 4 ∨ a.2.2 = b.2.2) : key3 a = key3 b := by
  obtain ⟨q, nm, vl⟩ := a
  obtain ⟨q', nm', vl'⟩ := b
  simp only at h h' h''
  subst h h'
  unfold key3 keyFor
  by_cases e : q = 4
  · simp only [if_pos e]
    rcases h'' with h'' | h''
    · exact absurd e h''
    · rw [h'']
  · simp only [if_neg e]

theorem key3_ne1 {a b : K3} (h : a.1 ≠ b.1) : key3 a ≠ key3 b := by
  intro e
  unfold key3 keyFor at e
  apply h
  have h1 := congrArg (fun k : Key => k.1.1) e
  split at h1 <;> split at h1 <;> simp_all

theorem key3_ne2 {a b : K3} (h : a.1 = b.1) (h' : a.2.1 ≠ b.2.1) : key3 a ≠ key3 b := by
  intro e
  unfold key3 keyFor at e
  apply h'
  rw [h] at e
  split at e
  · exact congrArg (fun k : Key => k.1.2) e
  · exact congrArg (fun k : Key => k.2) e

theorem key3_ne3 {a b : K3} (h : a.1 = b.1) (h4 : b.1 = 4) (h' : a.2.2 ≠ b.2.2) : key3 a ≠ key3 b := by
  intro e
  unfold key3 keyFor at e
  rw [h, if_pos h4, if_pos h4] at e
  exact h' (congrArg (fun k : Key => k.2) e)

theorem have_zip_hit : ∀ (ks : List K3) (M : List Nat) (_ : ks.length = M.length) {j : Nat} {k' : K3} {k : Key} (_ : ks[j]? = some k') (_ : key3 k' = k) (_ : ∀ j', j' < j → ∀ k'', ks[j']? = some k'' → key3 k'' ≠ k),
    have? ((ks.map key3).zip M) k = M[j]?
  | [], M, _, j, k', k, h, _, _ => by simp at h
  | k0 :: ks, [], hl, _, _, _, _, _, _ => by simp at hl
  | k0 :: ks, m :: M, hl, 0, k', k, h, hk, _ => by
    obtain rfl : k0 = k' := by simpa using h
    simp [have?, hk]
  | k0 :: ks, m :: M, hl, j + 1, k', k, h, hk, hf => by
    have ih := have_zip_hit ks M (by simpa using hl) (j := j) (k' := k') (k := k) (by simpa using h) hk (fun j' hj' k'' hk'' => hf (j' + 1) (by omega) k'' (by simpa using hk''))
    have h0 := hf 0 (by omega) k0 rfl
    simp only [have?, List.map_cons, List.zip_cons_cons] at ih ⊢
    rw [List.find?_cons_of_neg (by simpa using h0), ih]
    simp

theorem have_zip_miss (ks : List K3) (M : List Nat) {k : Key} (h : ∀ k' ∈ ks, key3 k' ≠ k) : have? ((ks.map key3).zip M) k = none := by
  refine have_none (fun p hp => ?_)
  have h1 := (List.of_mem_zip hp).1
  obtain ⟨k', hk', e⟩ := List.mem_map.1 h1
  rw [← e]; exact h k' hk'

/-- One pointer of an owned row of them. -/
theorem row_ptr {w : World} {base : Nat} {v : Value} {M : List Nat} (h : w.ownsRow base 33 1 v M.length (M.map ptr)) {j m : Nat} (hj : M[j]? = some m) :
    ∃ g cap, v = .slice (some ⟨g, 0, none⟩) M.length cap ∧ w.cell? ⟨g, j, none⟩ = some (.pointer (some ⟨m, 0, none⟩)) := by
  have hil : j < M.length := (List.getElem?_eq_some_iff.1 hj).1
  rcases h.2 with ⟨_, h0⟩ | ⟨g, cap, cur, rfl, hb, hg, _⟩
  · omega
  · have := h.cells (g := g) rfl j (ptr m) (by simp [hj])
    rw [add_lit, Nat.zero_add] at this
    exact ⟨g, cap, rfl, this⟩

theorem Grp.drewN {w : World} {base g N : Nat} {L : List (Key × Nat)} {M : List Nat} {cs : Array Value} {role : Nat → Option (Nat × ByteArray)} {bv : Value} (h : Grp w base g N L M cs role bv) (n : Nat) : Grp (w.drewN n) base g N L M cs role bv :=
  h.same (fun _ _ => rfl)

theorem info72 : (Try.prog.info? 72).map (·.size) = some 4 := by kernel_rfl
theorem ptr_in_same (w : World) (d : Nat) (a : Addr) : (Op.equalIn (d + 1) 33 (.pointer (some a)) (.pointer (some a))).run Try.prog w = .ok true w := by
  obtain ⟨j, hj, _⟩ := Option.map_eq_some_iff.1 info72
  simp [Op.equalIn, run_underlying Try.underlying33, sizeOf, typeInfo, hj, run_sameAddr_same]
theorem ptr_in_other (w : World) (d : Nat) {m b : Nat} (hne : m ≠ b) {c c' : Array Value} (hm : w.heap[m]? = some (.cells c 72 (0, 0))) (hb : w.heap[b]? = some (.cells c' 72 (0, 0))) :
    (Op.equalIn (d + 1) 33 (.pointer (some ⟨m, 0, none⟩)) (.pointer (some ⟨b, 0, none⟩))).run Try.prog w = .ok false w := by
  obtain ⟨j, hj, hs⟩ := Option.map_eq_some_iff.1 info72
  have h := run_sameAddr_other (P := Try.prog) w (a := ⟨m, 0, none⟩) (b := ⟨b, 0, none⟩) (fun e => hne (congrArg Addr.block e)) hm hb
  simp [Op.equalIn, run_underlying Try.underlying33, sizeOf, typeInfo, hj, hs, h]
theorem ptr_neq_same (w : World) (a : Addr) : (binOp .neq 33 (.pointer (some a)) (.pointer (some a))).run Try.prog w = .ok (.bool false) w := by
  simp only [binOp]
  simp [Op.equal, Op.maxDepth, ptr_in_same w 9999 a]
theorem ptr_eql_other (w : World) {m b : Nat} (hne : m ≠ b) {c c' : Array Value} (hm : w.heap[m]? = some (.cells c 72 (0, 0))) (hb : w.heap[b]? = some (.cells c' 72 (0, 0))) :
    (binOp .eql 33 (.pointer (some ⟨m, 0, none⟩)) (.pointer (some ⟨b, 0, none⟩))).run Try.prog w = .ok (.bool false) w := by
  simp only [binOp]
  simp [Op.equal, Op.maxDepth, ptr_in_other w 9999 hne hm hb]

theorem hide' {p : Prop} (h : p) : Hid p := h

theorem Grp.grown {w w' : World} {base g N : Nat} {L : List (Key × Nat)} {M : List Nat} {cs : Array Value} {role : Nat → Option (Nat × ByteArray)} {bv : Value} (h : Grp w base g N L M cs role bv) {row : Option Nat} (hg : w.grownBy w' row)
    (hr : ∀ k, row = some k → (∃ c, w.heap[k]? = some (.cells c 29 (0, 0))) ∨ ((∃ c, w.heap[k]? = some (.cells c 33 (0, 0))) ∧ bv.ownBlock ≠ some k)) : Grp w' base g N L M cs role bv := by
  have mapk : ∀ (b : Nat) (es : Array MapEntry) (c : Nat), w.heap[b]? = some (Obj.map es c) → w'.heap[b]? = w.heap[b]? := fun b es c hb => by
    refine hg.block b (Array.getElem?_eq_some_iff.1 hb).1 (fun e => ?_)
    rcases hr b e.symm with ⟨c', hc⟩ | ⟨⟨c', hc⟩, _⟩ <;> (rw [hb] at hc; cases hc)
  refine h.step ?_ ((hg.block g h.glt (fun e => ?_)).trans h.hg) h.len rfl ?_ h.plain ?_ ?_ (fun _ _ e => e) h.one
  · intro m c hm
    refine hg.block m (Array.getElem?_eq_some_iff.1 hm).1 (fun e => ?_)
    rcases hr m e.symm with ⟨c', hc⟩ | ⟨⟨c', hc⟩, _⟩ <;> (rw [hm] at hc; cases hc)
  · rcases hr g e.symm with ⟨c', hc⟩ | ⟨⟨c', hc⟩, _⟩ <;> (rw [h.hg] at hc; cases hc)
  · intro k hk
    refine hg.block k (h.row.lt k hk).2 (fun e => ?_)
    rcases hr k e.symm with ⟨c', hc⟩ | ⟨_, hc⟩
    · obtain ⟨cur, hcur⟩ := row_block h.row hk
      rw [hc] at hcur
      cases hcur
    · exact hc hk
  · obtain ⟨r, h1, h2, h3⟩ := h.vals
    refine ⟨r, h1, h2, fun v hv => ?_⟩
    obtain ⟨h4, h5, F, h6, h7⟩ := h3 v hv
    obtain ⟨es, c, hm⟩ := h6.isMap
    exact ⟨h4, h5, F, h6.same (mapk v es c hm), h7⟩
  · intro b ρ hb
    obtain ⟨h1, h2⟩ := h.maps b ρ hb
    obtain ⟨es, c, hm⟩ := h2.isMap
    exact ⟨h1, h2.same (mapk b es c hm)⟩

theorem rows_apart {w : World} {base e e' : Nat} {size size' n n' : Nat} {v v' : Value} {xs xs' : List Value} (h : w.ownsRow base e size v n xs) (h' : w.ownsRow base e' size' v' n' xs') (hne : e ≠ e') {k : Nat} (hk : v.ownBlock = some k) : v'.ownBlock ≠ some k := by
  intro hk'
  obtain ⟨c, hc⟩ := row_block h hk
  obtain ⟨c', hc'⟩ := row_block h' hk'
  rw [hc] at hc'
  cases hc'
  exact hne rfl

theorem row_kept9 {w2 w3 : World} {base nr n8 n9 : Nat} {v8 v9 : Value} {x8 x9 : List Value} {o : Obj} (h8 : w2.ownsRow base 29 3 v8 n8 x8) (h9 : w2.ownsRow base 33 1 v9 n9 x9) (hg : ((w2.drewN nr).alloc o).grownBy w3 v8.ownBlock) : w3.ownsRow base 33 1 v9 n9 x9 := by
  have h9' : ((w2.drewN nr).alloc o).ownsRow base 33 1 v9 n9 x9 := World.ownsRow.alloc (w := w2.drewN nr) h9 o
  refine h9'.kept hg ?_
  cases hv : v9.ownBlock with
  | none => exact .inl rfl
  | some k => exact .inr (fun e => rows_apart h9 h8 (by decide) hv e.symm)

/-- A ROUND THAT MEETS A NEW KEY: both lists grown by one. -/
theorem St.next {w w2 w3 w4 : World} {g N n i nr : Nat} {X : Nat → K3} {kv bv' : Value} {ks : List K3} {L : List (Key × Nat)} {M : List Nat} {cs' : Array Value} {role' : Nat → Option (Nat × ByteArray)} {o8 o9 : Option Addr} {c8 c9 g8 cap8 g9 cap9 q b : Nat} {nm vl : ByteArray} {x1 x2 : Array Value}
    (hG2 : Grp w2 w.heap.size g N (L ++ [(key3 (q, nm, vl), b)]) (M ++ [b]) cs' role' bv') (hN : N ≤ 2 * (i + 1)) (hkv2 : w2.ownsRow w.heap.size 29 3 kv n (flat ((List.range n).map X)))
    (h82 : w2.ownsRow w.heap.size 29 3 (.slice o8 ks.length c8) ks.length (flat ks)) (h92 : w2.ownsRow w.heap.size 33 1 (.slice o9 M.length c9) M.length (M.map ptr)) (hbel2 : Below w.heap.size w w2)
    (hd1 : ∀ b, kv.ownBlock = some b → (Value.slice o8 ks.length c8).ownBlock ≠ some b) (hd22 : ∀ b, (Value.slice o9 M.length c9).ownBlock = some b → bv'.ownBlock ≠ some b)
    (hL : L = (ks.map key3).zip M) (hlen : ks.length = M.length) (hle : M.length ≤ i) (hks : ∀ k ∈ ks, k.1 ≤ 4) (hq4 : q ≤ 4)
    (hown8 : w3.ownsRow w.heap.size 29 3 (.slice (some ⟨g8, 0, none⟩) (ks.length + 1) cap8) (ks.length + 1) (flat ks ++ cells3 (q, nm, vl)))
    (hgrow8 : ((w2.drewN nr).alloc (.cells x1 29)).grownBy w3 (Value.slice o8 ks.length c8).ownBlock) (hat8 : (Value.slice o8 ks.length c8).ownBlock = some g8 ∨ g8 = w2.heap.size + 1)
    (hown9 : w4.ownsRow w.heap.size 33 1 (.slice (some ⟨g9, 0, none⟩) (M.length + 1) cap9) (M.length + 1) (M.map ptr ++ [ptr b]))
    (hgrow9 : (w3.alloc (.cells x2 33)).grownBy w4 (Value.slice o9 M.length c9).ownBlock) (hat9 : (Value.slice o9 M.length c9).ownBlock = some g9 ∨ g9 = w3.heap.size + 1) :
    St w g n X kv (i + 1) (.slice (some ⟨g8, 0, none⟩) (ks.length + 1) cap8) (.slice (some ⟨g9, 0, none⟩) (M.length + 1) cap9) w4 := by
  have s1 := hbel2.size
  have s2 := hgrow8.size
  have s3 := hgrow9.size
  simp at s2 s3
  have h93 := row_kept9 h82 h92 hgrow8
  have hGa : Grp ((w2.drewN nr).alloc (.cells x1 29)) w.heap.size g N (L ++ [(key3 (q, nm, vl), b)]) (M ++ [b]) cs' role' bv' := (hG2.drewN nr).alloc _
  have h82a : ((w2.drewN nr).alloc (.cells x1 29)).ownsRow w.heap.size 29 3 (.slice o8 ks.length c8) ks.length (flat ks) := World.ownsRow.alloc (w := w2.drewN nr) h82 _
  have hkva : ((w2.drewN nr).alloc (.cells x1 29)).ownsRow w.heap.size 29 3 kv n (flat ((List.range n).map X)) := World.ownsRow.alloc (w := w2.drewN nr) hkv2 _
  have hG3 := hGa.grown hgrow8 (fun k hk => .inl (row_block h82a hk))
  have hG4 := (hG3.alloc (.cells x2 33)).grown hgrow9 (fun k hk => .inr ⟨row_block (h93.alloc _) hk, hd22 k hk⟩)
  have hkv3 : w3.ownsRow w.heap.size 29 3 kv n (flat ((List.range n).map X)) := by
    refine hkva.kept hgrow8 ?_
    cases hv : kv.ownBlock with
    | none => exact .inl rfl
    | some k => exact .inr (fun e => hd1 k hv e.symm)
  have hkv4 : w4.ownsRow w.heap.size 29 3 kv n (flat ((List.range n).map X)) := by
    refine (hkv3.alloc _).kept hgrow9 ?_
    cases hv : kv.ownBlock with
    | none => exact .inl rfl
    | some k => exact .inr (fun e => rows_apart hkv3 h93 (by decide) hv e.symm)
  have h84 : w4.ownsRow w.heap.size 29 3 (.slice (some ⟨g8, 0, none⟩) (ks.length + 1) cap8) (ks.length + 1) (flat ks ++ cells3 (q, nm, vl)) := by
    refine (hown8.alloc _).kept hgrow9 (.inr (fun e => rows_apart hown8 h93 (by decide) (k := g8) rfl (e.symm.trans rfl)))
  refine ⟨ks ++ [(q, nm, vl)], _, M ++ [b], cs', role', bv', some ⟨g8, 0, none⟩, cap8, some ⟨g9, 0, none⟩, cap9, by simp, by simp, hG4.mono hN, hkv4, ?_, ?_, ?_, by simp [hlen], by simp; omega, ?_, ?_, ?_, ?_⟩
  · rw [flat_snoc]; simpa using h84
  · simpa using hown9
  · rw [hL, List.map_append, List.zip_append (by simpa using hlen)]; rfl
  · intro k hk
    rcases List.mem_append.1 hk with hk | hk
    · exact hks k hk
    · rw [List.mem_singleton.1 hk]; exact hq4
  · intro k hk e
    have e' : g8 = k := by simpa [Value.ownBlock] using e
    rcases hat8 with h | h
    · exact hd1 k hk (by rw [h, e'])
    · have := (hkv2.lt k hk).2; omega
  · intro k hk e
    have e' : g9 = k := by simpa [Value.ownBlock] using hk
    rcases hat9 with h | h
    · exact hd22 k (by rw [h, e']) e
    · have := (hG2.row.lt k e).2; omega
  · have t1 : Below w.heap.size w ((w2.drewN nr).alloc (.cells x1 29)) := (below_drewN hbel2 nr).alloc (by simpa using s1) _
    have t2 := t1.grown hgrow8 (by simp; omega) (fun k hk => (h82.lt k hk).1)
    exact (t2.alloc (by omega) (.cells x2 33)).grown hgrow9 (by simp; omega) (fun k hk => (h92.lt k hk).1)

theorem row_form {w : World} {base e size n : Nat} {v : Value} {xs : List Value} (h : w.ownsRow base e size v n xs) : ∃ o c, v = .slice o n c := by
  rcases h.2 with ⟨rfl, rfl⟩ | ⟨g, cap, cur, rfl, _⟩
  · exact ⟨none, 0, rfl⟩
  · exact ⟨_, _, rfl⟩

/-- What the main loop leaves. -/
def Done (w : World) (n : Nat) (v9 : Value) (g : Nat) (wx : World) : Prop :=
  ∃ (L : List (Key × Nat)) (M : List Nat) (cs : Array Value) (role : Nat → Option (Nat × ByteArray)) (bv : Value) (N : Nat) (o9 : Option Addr) (c9 : Nat),
    v9 = .slice o9 M.length c9 ∧ Grp wx w.heap.size g N L M cs role bv ∧ wx.ownsRow w.heap.size 33 1 (.slice o9 M.length c9) M.length (M.map ptr) ∧ M.length ≤ n ∧ Below w.heap.size w wx

theorem St.start {w wc : World} {n : Nat} {X : Nat → K3} {kv : Value} (hrow : wc.ownsRow w.heap.size 29 3 kv n (flat ((List.range n).map X))) (hb : Below w.heap.size w wc) (hn : n ≤ 4096) :
    St w wc.heap.size n X kv 0 (.slice (some ⟨wc.heap.size + 1, 0, none⟩) 0 n) (.slice (some ⟨wc.heap.size + 1 + 1, 0, none⟩) 0 n) (((wc.alloc (.cells zeroG 48)).alloc (.cells (made26 n) 29)).alloc (.cells (made32 n) 33)) := by
  have hbase := hb.size
  refine ⟨[], [], [], zeroG, fun _ => none, .slice none 0 0, some ⟨wc.heap.size + 1, 0, none⟩, n, some ⟨wc.heap.size + 1 + 1, 0, none⟩, n, rfl, rfl, ((Grp.fresh0 wc hbase).alloc _).alloc _, ((hrow.alloc _).alloc _).alloc _, ?_, ?_, rfl, rfl, Nat.le_refl _, (fun k hk => by cases hk), ?_, ?_, ?_⟩
  · have := World.ownsRow_made (base := w.heap.size) (e := 29) (size := 3) (wc.alloc (.cells zeroG 48)) (made26 n) n (by simp; omega) (by unfold maxLen; omega) (made26_size n)
    simpa [flat] using this.alloc (.cells (made32 n) 33)
  · have := World.ownsRow_made (base := w.heap.size) (e := 33) (size := 1) ((wc.alloc (.cells zeroG 48)).alloc (.cells (made26 n) 29)) (made32 n) n (by simp; omega) (by unfold maxLen; omega) (by rw [made32_size]; omega)
    simpa using this
  · intro b hb' e
    have h1 := (hrow.lt b hb').2
    simp [Value.ownBlock] at e
    omega
  · intro b _ e
    simp [Value.ownBlock] at e
  · exact ((hb.alloc hbase _).alloc (by simp; omega) _).alloc (by simp; omega) _

set_option maxHeartbeats 1000000 in
set_option maxRecDepth 100000 in
theorem group9 (w : World) (oa : Option Addr) (kb ko n cap : Nat) (X : Nat → K3) (hnc : n ≤ cap) (hcap : cap ≤ maxLen) (hoa : 0 < n → oa = some ⟨kb, ko, none⟩) (hnone : oa = none → n = 0 ∧ cap = 0)
    (h0 : ∀ i, i < n → w.cell? ⟨kb, ko + i * 3, none⟩ = some (.int .u8 (X i).1)) 
    (h1 : ∀ i, i < n → w.cell? ⟨kb, ko + i * 3 + 1, none⟩ = some (.string (X i).2.1)) (h2 : ∀ i, i < n → w.cell? ⟨kb, ko + i * 3 + 2, none⟩ = some (.string (X i).2.2)) 
    (hq : ∀ i, i < n → (X i).1 ≤ 255) (hn1 : ∀ i, i < n → (X i).2.1.size ≤ maxLen) (hn2 : ∀ i, i < n → (X i).2.2.size ≤ maxLen) :
    Calls Try.prog 9 #[.slice oa n cap] w fun e w' => e = .returned (.bool true) ∧ Below w.heap.size w w' := by
  by_cases hbig : n ≤ 4096
  rotate_left
  · go_enter Try.func9, Try.ntmps9
    go_wp2_with (go_at_call 19; refine (bytes19 w oa kb ko n cap X hoa h1 h2).mono ?_; rintro e w' ⟨⟨b, rfl⟩, rfl⟩; cases b)
    · go_ret
      exact ⟨rfl, Below.refl _ _⟩
    · go_ret
      exact ⟨rfl, Below.refl _ _⟩
  go_enter Try.func9, Try.ntmps9
  go_upto_block 0 with (go_at_call 19; refine (bytes19 w oa kb ko n cap X hoa h1 h2).mono ?_; rintro e w' ⟨⟨b, rfl⟩, hw⟩; obtain rfl : w = w' := hw.symm; cases b)
  · go_wp2
    go_ret
    exact ⟨rfl, Below.refl _ _⟩
  go_cut [] (fun wx => ∃ nq, wx = w.drewN nq)
  case first =>
    go_wp2_with fail
    go_loopw [3, 4] (fun p q wr => ∃ (k : Nat) (m : Int) (nq : Nat), p = .int .i64 m ∧ q = .int .i64 k ∧ k ≤ n ∧ wr = w.drewN nq) (fun _ q _ => n - (intOf q).toNat)
    case atStart => exact ⟨0, 0, 0, rfl, rfl, Nat.zero_le _, rfl⟩
    case round =>
      obtain ⟨k, m, nq, rfl, rfl, hk, rfl⟩ := hrel
      by_cases hlt : k < n
      · have c1 := h1 k hlt
        have c2 := h2 k hlt
        obtain rfl := hoa (by omega)
        clear h0 h1 h2 hoa hq hn1 hn2 hnone
        generalize (X k).2.1 = nm at *
        generalize (X k).2.2 = vl at *
        have hkI : (k : Int) < (n : Int) := by omega
        go_wp2_with fail
        go_quiet (fail)
        go_wp2
        · go_ret
          exact ⟨rfl, below_drewN (Below.refl _ _) _⟩
        · go_roundw
          case rel => exact ⟨k + 1, _, _, rfl, by go_num, by omega, rfl⟩
          case measure => simp [intOf]; omega
      · clear hoa
        go_wp2_with fail
        go_meet
        exact ⟨nq, rfl⟩
  case rest =>
  obtain ⟨nq, rfl⟩ := hcut
  go_upto_block 2 with fail
  go_cut [] (fun wx => (∀ i, i < n → (X i).1 ≤ 4) ∧ wx = w.drewN nq)
  case first =>
    go_wp2_with fail
    go_loop [5] (fun q => ∃ k : Nat, q = .int .i64 k ∧ k ≤ n ∧ ∀ i, i < k → (X i).1 ≤ 4) (fun q => n - (intOf q).toNat)
    case atStart => exact ⟨0, rfl, Nat.zero_le _, fun i hi => absurd hi (Nat.not_lt_zero _)⟩
    case round =>
      obtain ⟨k, rfl, hk, hall⟩ := hrel
      by_cases hlt : k < n
      · have c0 := h0 k hlt
        obtain rfl := hoa (by omega)
        clear h0 h1 h2 hoa hq hn1 hn2 hnone
        have hkI : (k : Int) < (n : Int) := by omega
        have HA : Hid (∀ i, i < k → (X i).1 ≤ 4) := hall
        clear hall
        go_wp2
        · go_ret
          exact ⟨rfl, below_drewN (Below.refl _ _) _⟩
        · have hle : ((X k).1 : Int) ≤ 4 := by assumption
          go_round
          case rel => exact ⟨k + 1, by go_num, by omega, fun i hi => by
            rcases Nat.lt_succ_iff_lt_or_eq.1 hi with h | rfl
            · exact HA.out i h
            · omega⟩
          case measure => simp [intOf]; omega
      · clear hoa
        go_wp2_with fail
        go_meet
        obtain rfl : k = n := by omega
        exact ⟨hall, rfl⟩
  case rest =>
  obtain ⟨hkind, rfl⟩ := hcut
  clear hq
  have hne := neq26
  have hm26 := make26 hbig
  go_upto_if 61 with fail
  go_cut [0] (fun kv wx => Keys w n X kv wx)
  case first =>
    cases oa with
    | none =>
      obtain ⟨rfl, rfl⟩ := hnone rfl
      go_wp2
      go_meet
      exact ⟨none, 0, rfl, World.ownsRow_nil _ _ _ _, below_drewN (Below.refl _ _) _⟩
    | some a =>
      obtain ⟨w2, hcp, hk, hb2⟩ : ∃ w2, Sem.run Try.prog (Builtin.copy_ #[26, 26] 3 #[.slice (some ⟨w.heap.size, 0, none⟩) n n, .slice (some a) n cap]) ((w.drewN nq).alloc (.cells (made26 n) 29)) = .ok (goInt n) w2 ∧
          w2.ownsRow w.heap.size 29 3 (.slice (some ⟨w.heap.size, 0, none⟩) n n) n (flat ((List.range n).map X)) ∧ Below w.heap.size w w2 :=
        ⟨_, copy26 (w.drewN nq) a n cap ((List.range n).map X) (by simp) (fun j v hj => arg_src hoa h0 h1 h2 hj), keys_made (w.drewN nq) n ((List.range n).map X) (by simp) (by omega),
          below_setRow ((below_drewN (Below.refl _ _) nq).alloc (Nat.le_refl _) _) (Nat.le_refl _) _⟩
      clear h0 h1 h2 hoa hn1 hn2 hkind hnone
      go_wp2
      go_meet
      exact ⟨_, _, rfl, hk, hb2⟩
  case rest =>
  rename World => wk
  obtain ⟨oa', cap', rfl, hrow, hbel⟩ := hcut
  clear h0 h1 h2 hoa hnone hne hm26
  have hs26 := make26s hbig
  have hs32 := make32s hbig
  go_upto_block 4 with (first | (go_at_call 20; refine (new20 _).mono ?_; rintro e w' ⟨rfl, rfl⟩))
  go_cut [9] (fun v9 wx => Done w n v9 wk.heap.size wx)
  case first =>
    go_wp2_with fail
    have hst0 := St.start (w := w) (n := n) (X := X) (wc := wk) hrow hbel hbig
    go_loopw [8, 9, 10] (fun v8 v9 q wr => ∃ (i : Nat), q = .int .i64 i ∧ i ≤ n ∧ St w wk.heap.size n X (.slice oa' n cap') i v8 v9 wr) (fun _ _ q _ => n - (intOf q).toNat)
    case atStart => exact ⟨0, rfl, Nat.zero_le _, hst0⟩
    case round =>
      clear hst0 hrow hbel
      obtain ⟨i, rfl, hi, ks, L, M, cs, role, bv, o8, c8, o9, c9, rfl, rfl, hG, hkv, h8, h9, hL, hlen, hle, hks, hd1, hd2, hbel⟩ := hrel
      have HL : Hid (L = (ks.map key3).zip M) := hL
      have HN : Hid (ks.length = M.length) := hlen
      clear hL hlen
      by_cases hlt : i < n
      · obtain ⟨gk, rfl, hbk, k0, k1, k2⟩ := keys_at hkv hlt
        have hq4 := hkind i hlt
        have hs1 := hn1 i hlt
        have hs2 := hn2 i hlt
        have hiI : (i : Int) < (n : Int) := by omega
        clear hkind hn1 hn2
        generalize hX : X i = kk at k0 k1 k2 hq4 hs1 hs2
        obtain ⟨q, nm, vl⟩ := kk
        have HX : Hid (X i = (q, nm, vl)) := hX
        clear hX
        simp only at k0 k1 k2 hq4 hs1 hs2
        go_wp2_with fail
        refine (bucket21 (hG.alloc _) q hq4 nm vl hs1 hs2 (by unfold maxLen; omega) (by omega) (by have := hbel.size; simp; omega)).mono ?_
        rintro e w2 ⟨b, L', M', cs', role', bv', rfl, hG2, hT, hbv, hcase⟩
        obtain ⟨hkv2, h82, h92, hbox, hbel2, hd22⟩ := mid hG hkv h8 h9 hd2 hbel hT hbv
        unfold ptr
        go_upto_block 6 with fail
        go_cut [13] (fun f wx => Fnd ks (q, nm, vl) f ∧ ∃ nr, wx = w2.drewN nr)
        case first =>
          have b0 : w2.cell? ⟨wr.heap.size, 0, none⟩ = some (.int .u8 q) := by rw [cell_of_row w2 _ 0 _ _ _ hbox]; rfl
          have b1 : w2.cell? ⟨wr.heap.size, 1, none⟩ = some (.string nm) := by rw [cell_of_row w2 _ 1 _ _ _ hbox]; rfl
          have b2 : w2.cell? ⟨wr.heap.size, 2, none⟩ = some (.string vl) := by rw [cell_of_row w2 _ 2 _ _ _ hbox]; rfl
          have hl8 : ks.length ≤ 4096 := by have := HN.out; omega
          clear hkv2 h92 hbox hbel2 hd22 hG hG2 hkv h8 h9 hd1 hd2 hbel hT hbv hcase k0 k1 k2 HL HN
          go_wp2_with fail
          go_loopw [13, 14] (fun f p wy => ∃ (j nr : Nat), f = .int .i64 (-1) ∧ p = .int .i64 j ∧ j ≤ ks.length ∧ wy = w2.drewN nr ∧ Hid (∀ j', j' < j → ∀ k', ks[j']? = some k' → key3 k' ≠ key3 (q, nm, vl))) (fun _ p _ => ks.length - (intOf p).toNat)
          case atStart => exact ⟨0, 0, rfl, rfl, Nat.zero_le _, rfl, fun j' hj' => absurd hj' (Nat.not_lt_zero _)⟩
          case round =>
            obtain ⟨j, nr, rfl, rfl, hj, rfl, hno⟩ := hrel
            by_cases hjl : j < ks.length
            · obtain ⟨k', hk'⟩ : ∃ k', ks[j]? = some k' := ⟨_, List.getElem?_eq_getElem hjl⟩
              obtain ⟨g8, c8', e8, _, s0, s1, s2⟩ := flat_cells h82 hk'
              obtain ⟨rfl, rfl⟩ : o8 = some ⟨g8, 0, none⟩ ∧ c8 = c8' := by injection e8 with e1 e2 e3; exact ⟨e1, e3⟩
              have hjI : (j : Int) < (ks.length : Int) := by omega
              have HK : Hid (ks[j]? = some k') := hk'
              clear h82 hk' e8
              obtain ⟨q', nm', vl'⟩ := k'
              simp only at s0 s1 s2
              have next : key3 (q', nm', vl') ≠ key3 (q, nm, vl) → Hid (∀ j', j' < j + 1 → ∀ k', ks[j']? = some k' → key3 k' ≠ key3 (q, nm, vl)) := by
                intro hne j' hj' k'' hk''
                rcases Nat.lt_succ_iff_lt_or_eq.1 hj' with h | rfl
                · exact hno.out j' h k'' hk''
                · rw [HK.out] at hk''; cases hk''; exact hne
              have hit : key3 (q', nm', vl') = key3 (q, nm, vl) → Fnd ks (q, nm, vl) (.int .i64 j) := fun e => .inr ⟨j, _, rfl, HK.out, e, hno.out⟩
              have HNext : Hid _ := next
              have HHit : Hid _ := hit
              clear next hit
              by_cases e1 : q' = q
              · have t1 : ((q' : Int) == (q : Int)) = true := by simp [e1]
                have E1 : Hid (q' = q) := e1
                clear e1
                by_cases e2 : nm' = nm
                · have t2 : (nm'.toList == nm.toList) = true := by simp [e2]
                  have E2 : Hid (nm' = nm) := e2
                  clear e2
                  by_cases e3 : q = 4
                  · have t3 : ((q : Int) != 4) = false := by simp [e3]
                    have E3 : Hid (q = 4) := e3
                    clear e3
                    by_cases e4 : vl' = vl
                    · have t4 : (vl'.toList == vl.toList) = true := by simp [e4]
                      have E4 : Hid (vl' = vl) := e4
                      clear e4
                      go_wp2_with fail
                      go_quiet (fail)
                      go_wp2
                      go_meet
                      exact ⟨HHit.out (key3_eq E1.out E2.out (.inr E4.out)), _, World.drewN_drewN _ _ _⟩
                    · have t4 : (vl'.toList == vl.toList) = false := by simpa using fun e => e4 (bytes_eq e)
                      have E4 : Hid (vl' ≠ vl) := e4
                      clear e4
                      go_wp2_with fail
                      go_quiet (fail)
                      go_wp2
                      go_roundw
                      case rel => exact ⟨j + 1, _, rfl, by go_num, by omega, rfl, HNext.out (key3_ne3 E1.out E3.out E4.out)⟩
                      case measure => simp [intOf]; omega
                  · have t3 : ((q : Int) != 4) = true := by simp; omega
                    have E3 : Hid (q ≠ 4) := e3
                    clear e3
                    go_wp2_with fail
                    go_quiet (fail)
                    go_wp2
                    go_meet
                    exact ⟨HHit.out (key3_eq E1.out E2.out (.inl E3.out)), _, World.drewN_drewN _ _ _⟩
                · have t2 : (nm'.toList == nm.toList) = false := by simpa using fun e => e2 (bytes_eq e)
                  have E2 : Hid (nm' ≠ nm) := e2
                  clear e2
                  go_wp2_with fail
                  go_quiet (fail)
                  go_wp2
                  go_roundw
                  case rel => exact ⟨j + 1, _, rfl, by go_num, by omega, rfl, HNext.out (key3_ne2 E1.out E2.out)⟩
                  case measure => simp [intOf]; omega
              · have t1 : ((q' : Int) == (q : Int)) = false := by simp; omega
                have E1 : Hid (q' ≠ q) := e1
                clear e1
                go_wp2_with fail
                go_quiet (fail)
                go_wp2
                go_roundw
                case rel => exact ⟨j + 1, _, rfl, by go_num, by omega, rfl, HNext.out (key3_ne1 E1.out)⟩
                case measure => simp [intOf]; omega
            · go_wp2_with fail
              go_meet
              exact ⟨.inl ⟨rfl, fun k' hk' => by
                obtain ⟨j', e⟩ := List.mem_iff_getElem?.1 hk'
                exact hno.out j' (by have := (List.getElem?_eq_some_iff.1 e).1; omega) k' e⟩, nr, rfl⟩
        case rest =>
        obtain ⟨hf, nr, hwc⟩ := hcut
        obtain rfl := hwc
        rcases hf with ⟨rfl, hmiss⟩ | ⟨j, k', rfl, hkj, hkey, hfirst⟩
        · have hmis : have? L (key3 (q, nm, vl)) = none := by rw [HL.out]; exact have_zip_miss ks M hmiss
          obtain ⟨hnew, rfl, rfl⟩ : (wr.alloc (.cells #[.int .u8 q, .string nm, .string vl] 29)).heap.size ≤ b ∧ L' = L ++ [(key3 (q, nm, vl), b)] ∧ M' = M ++ [b] := by
            rcases hcase with ⟨h1, _, _⟩ | ⟨_, h2, h3, h4⟩
            · rw [show keyFor q nm vl = key3 (q, nm, vl) from rfl, hmis] at h1; cases h1
            · exact ⟨h2, h3, h4⟩
          have hbks : ∀ (j m : Nat), M[j]? = some m → (binOp .eql 33 (.pointer (some ⟨m, 0, none⟩)) (.pointer (some ⟨b, 0, none⟩))).run Try.prog (w2.drewN nr) = .ok (.bool false) (w2.drewN nr) := by
            intro j m hj
            have hml : ∃ k, (k, m) ∈ L := by
              rw [HL.out]
              have hj' := (List.getElem?_eq_some_iff.1 hj).1
              have hk' : j < ks.length := by rw [HN.out]; exact hj'
              refine ⟨key3 ks[j], List.mem_iff_getElem?.2 ⟨j, ?_⟩⟩
              rw [List.getElem?_zip_eq_some]
              exact ⟨by simp [hk'], hj⟩
            obtain ⟨k, hk⟩ := hml
            obtain ⟨c1, hc1⟩ := (hG.bks _ hk)
            obtain ⟨c2, hc2⟩ := hG2.bks _ (List.mem_append_left _ hk)
            obtain ⟨c3, hc3⟩ := hG2.bks (key3 (q, nm, vl), b) (List.mem_append_right _ (List.mem_singleton.2 rfl))
            have hlt1 : m < wr.heap.size := (Array.getElem?_eq_some_iff.1 hc1).1
            simp at hnew
            exact ptr_eql_other (w2.drewN nr) (by omega) hc2 hc3
          have HB : Hid _ := hbks
          clear hbks
          have hM4 : M.length ≤ 4096 := by omega
          have b0 : w2.cell? ⟨wr.heap.size, 0, none⟩ = some (.int .u8 q) := by rw [cell_of_row w2 _ 0 _ _ _ hbox]; rfl
          have b1 : w2.cell? ⟨wr.heap.size, 1, none⟩ = some (.string nm) := by rw [cell_of_row w2 _ 1 _ _ _ hbox]; rfl
          have b2 : w2.cell? ⟨wr.heap.size, 2, none⟩ = some (.string vl) := by rw [cell_of_row w2 _ 2 _ _ _ hbox]; rfl
          have HBX := hide' hbox
          clear hbox hG hkv h8 h9 hd2 hbel hT hbv hcase k0 k1 k2 hmiss hmis
          go_wp2_with fail
          go_loop [15] (fun p => ∃ j : Nat, p = .int .i64 j ∧ j ≤ M.length) (fun p => M.length - (intOf p).toNat)
          case atStart => exact ⟨0, rfl, Nat.zero_le _⟩
          case round =>
            obtain ⟨j, rfl, hj⟩ := hrel
            by_cases hjl : j < M.length
            · obtain ⟨m, hm⟩ : ∃ m, M[j]? = some m := ⟨_, List.getElem?_eq_getElem hjl⟩
              have hpe := HB.out j m hm
              obtain ⟨g9, c9', e9, m0⟩ := row_ptr h92 hm
              obtain ⟨rfl, rfl⟩ : o9 = some ⟨g9, 0, none⟩ ∧ c9 = c9' := by injection e9 with e1 e2 e3; exact ⟨e1, e3⟩
              have hjM : (j : Int) < (M.length : Int) := by omega
              clear hm e9 h92 HB hG2 hkv2 h82 hbel2 hd22 HL HN hd1
              go_wp2
              go_round
              case rel => exact ⟨j + 1, by go_num, by omega⟩
              case measure => simp [intOf]; omega
            · obtain ⟨i0, hi0, hz0, hz1, hz2⟩ := info_parts info29
              obtain ⟨i1, hi1, hy0, hy1, hy2⟩ := info_parts info33
              have hk4 : ks.length ≤ 4096 := by have := HN.out; omega
              have hbase2 := hbel2.size
              have h82' : (w2.drewN nr).ownsRow w.heap.size 29 3 (.slice o8 ks.length c8) ks.length (flat ks) := h82
              go_wp2_with (first
                | (at_builtin; refine wpList_append_lies _ (by rfl) _ _ 26 (by rfl) w.heap.size 29 i0 _ 3 40 Try.underlying26 hi0 hz0 hz1 hz2 rfl (by decide) (.slice o8 ks.length c8) ks.length (flat ks) (by rfl) (h82'.alloc _) ⟨w2.heap.size, 0, none⟩ 1 1 (cells3 (q, nm, vl)) (by rfl) (by rfl) (World.news_of_block (cs := #[.int .u8 q, .string nm, .string vl]) (t := 29) (fr := (0, 0)) (heap_alloc_new (w2.drewN nr) _)) (by simp [cells3, Value.oneCell']) (by omega) (by unfold maxLen; omega) (by omega) (by simp; omega) (w2.heap.size + 1) (by simp) ?_
                   intro g8 cap8 w3 hown8 hgrow8 hat8 hlt8)
                | (at_builtin; refine wpList_append_lies _ (by rfl) _ _ 32 (by rfl) w.heap.size 33 i1 _ 1 8 Try.underlying32 hi1 hy0 hy1 hy2 rfl (by decide) (.slice o9 M.length c9) M.length (M.map ptr) (by rfl) ((row_kept9 h82 h92 hgrow8).alloc _) ⟨w3.heap.size, 0, none⟩ 1 1 [ptr b] (by rfl) (by rfl) (cell_one_new _ _ _) (by simp [ptr, Value.oneCell']) (by omega) (by unfold maxLen; omega) (by omega) (by have := hgrow8.size; simp at this; simp; omega) (w3.heap.size + 1) (by simp) ?_
                   intro g9 cap9 w4 hown9 hgrow9 hat9 hlt9))
              have fin := St.next hG2 (by omega) hkv2 h82 h92 hbel2 hd1 hd22 HL.out HN.out hle hks hq4 hown8 hgrow8 hat8 hown9 hgrow9 hat9
              go_roundw
              case rel => exact ⟨i + 1, by go_num, by omega, fin⟩
              case measure => simp [intOf]; omega
        · have hhit := have_zip_hit ks M HN.out hkj hkey hfirst
          rw [← HL.out] at hhit
          obtain ⟨m, hm⟩ : ∃ m, M[j]? = some m := ⟨_, List.getElem?_eq_getElem (by have := (List.getElem?_eq_some_iff.1 hkj).1; have := HN.out; omega)⟩
          rw [hm] at hhit
          obtain ⟨rfl, rfl, rfl⟩ : m = b ∧ L' = L ∧ M' = M := by
            rcases hcase with ⟨h1, h2, h3⟩ | ⟨h1, _⟩
            · rw [show keyFor q nm vl = key3 (q, nm, vl) from rfl, hhit] at h1; cases h1; exact ⟨rfl, h2, h3⟩
            · rw [show keyFor q nm vl = key3 (q, nm, vl) from rfl, hhit] at h1; cases h1
          obtain ⟨g9, c9', e9, m0⟩ := row_ptr h92 hm
          obtain ⟨rfl, rfl⟩ : o9 = some ⟨g9, 0, none⟩ ∧ c9 = c9' := by injection e9 with e1 e2 e3; exact ⟨e1, e3⟩
          have hjM : (j : Int) < (M'.length : Int) := by have := (List.getElem?_eq_some_iff.1 hm).1; omega
          have fin : St w wk.heap.size n X (.slice (some ⟨gk, 0, none⟩) n cap') (i + 1) (.slice o8 ks.length c8) (.slice (some ⟨g9, 0, none⟩) M'.length c9) (w2.drewN nr) :=
            ⟨ks, L', M', cs', role', bv', o8, c8, _, c9, rfl, rfl, (hG2.drewN nr).mono (by omega), hkv2, h82, h92, HL.out, HN.out, by omega, hks, hd1, hd22, below_drewN hbel2 nr⟩
          clear hkv2 h82 h92 hbox hbel2 hd22 hG hG2 hkv h8 h9 hd1 hd2 hbel hT hbv hcase k0 k1 k2 HL HN hm hhit hkj hkey hfirst e9 hks
          have hp := ptr_neq_same
          go_wp2
          go_roundw
          case rel => exact ⟨i + 1, by go_num, by omega, fin⟩
          case measure => simp [intOf]; omega
      · go_wp2_with fail
        go_meet
        exact ⟨L, M, cs, role, bv, 2 * i, o9, c9, rfl, hG, h9, by omega, hbel⟩
  case rest =>
  obtain ⟨L, M, cs, role, bv, N, o9, c9, rfl, hG, h9, hMn, hbel⟩ := hcut
  obtain ⟨ob, cb, rfl⟩ := row_form hG.row
  have hp := ptr_neq_same
  clear hs26 hs32
  go_wp2_with (first | (go_at_call 22; refine (buckets22 hG).mono ?_; rintro e w' ⟨rfl, hw'⟩; obtain rfl : wc = w' := hw'.symm))
  go_loopw [17] (fun p wy => ∃ (j nr : Nat), p = .int .i64 j ∧ j ≤ M.length ∧ wy = wc.drewN nr) (fun p _ => M.length - (intOf p).toNat)
  case atStart => exact ⟨0, 0, rfl, Nat.zero_le _, rfl⟩
  case round =>
    obtain ⟨j, nr, rfl, hj, rfl⟩ := hrel
    by_cases hjl : j < M.length
    · obtain ⟨m, hm⟩ : ∃ m, M[j]? = some m := ⟨_, List.getElem?_eq_getElem hjl⟩
      obtain ⟨g9, c9', e9, m9⟩ := row_ptr h9 hm
      obtain ⟨rfl, rfl⟩ : o9 = some ⟨g9, 0, none⟩ ∧ c9 = c9' := by injection e9 with e1 e2 e3; exact ⟨e1, e3⟩
      obtain ⟨gb, cb', eb, mb⟩ := row_ptr hG.row hm
      obtain ⟨rfl, rfl⟩ : ob = some ⟨gb, 0, none⟩ ∧ cb = cb' := by injection eb with e1 e2 e3; exact ⟨e1, e3⟩
      have hjM : (j : Int) < (M.length : Int) := by omega
      clear hm e9 eb h9 hG hbel
      go_wp2_with fail
      go_quiet (fail)
      go_wp2
      go_roundw
      case rel => exact ⟨j + 1, _, by go_num, by omega, rfl⟩
      case measure => simp [intOf]; omega
    · go_wp2_with fail
      go_ret
      exact ⟨rfl, below_drewN hbel nr⟩

end Go.Proofs.Qxb6601800a
