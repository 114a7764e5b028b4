import Derived.Test.Qxb6601840aRows
import Derived.WalkKit
import Derived.WalkSpells
import Derived.WalkLawsBesides
namespace Go.Proofs.Qxb6601840a
open Go.RowKit

/-- A string either is the given text, or the walk's test of the two says no. -/
theorem text_or (a : ByteArray) (l : List UInt8) : a = ⟨l.toArray⟩ ∨ (a.toList == l) = false := by
  by_cases h : a.toList = l
  · left
    rw [ByteArray.toList_eq] at h
    obtain ⟨d⟩ := a
    congr 1
    rw [← h]
  · right; simp [h]

set_option maxHeartbeats 400000 in
theorem wire_long (a0 : ByteArray) (a1 : Bool) (w : World) (w0 : a0.size ≤ maxLen) (hb : 1048576 < a0.size) :
    Calls Try.prog 6 #[.string a0, .bool a1] w fun e w' => e = .returned (.bool true) ∧ w' = w := by
  unfold maxLen at w0
  go_enter Try.func6, Try.ntmps6
  go_wp2
  go_ret
  exact ⟨rfl, rfl⟩

set_option maxHeartbeats 400000 in
theorem wire_other (a0 : ByteArray) (a1 : Bool) (w : World) (w0 : a0.size ≤ maxLen) (hb : a0.size ≤ 1048576)
    (h1 : (a0.toList == [108, 101, 110, 103, 116, 104]) = false) (h2 : (a0.toList == [116, 111, 111, 108, 95, 99, 97, 108, 108, 115]) = false)
    (h3 : (a0.toList == [102, 117, 110, 99, 116, 105, 111, 110, 95, 99, 97, 108, 108]) = false)
    (h4 : (a0.toList == [99, 111, 110, 116, 101, 110, 116, 95, 102, 105, 108, 116, 101, 114]) = false) :
    Calls Try.prog 6 #[.string a0, .bool a1] w fun e w' => e = .returned (.bool true) ∧ w' = w := by
  unfold maxLen at w0
  cases a1
  · go_enter Try.func6, Try.ntmps6
    go_wp2
    go_ret
    exact ⟨rfl, rfl⟩
  · go_enter Try.func6, Try.ntmps6
    go_wp2
    go_ret
    exact ⟨rfl, rfl⟩

set_option maxHeartbeats 400000 in
theorem wire_length (a1 : Bool) (w : World) :
    Calls Try.prog 6 #[.string ⟨#[108, 101, 110, 103, 116, 104]⟩, .bool a1] w fun e w' => e = .returned (.bool true) ∧ w' = w := by
  cases a1
  all_goals
    go_enter Try.func6, Try.ntmps6
    go_wp2
    go_ret
    exact ⟨rfl, rfl⟩

set_option maxHeartbeats 400000 in
theorem wire_tool_calls (a1 : Bool) (w : World) :
    Calls Try.prog 6 #[.string ⟨#[116, 111, 111, 108, 95, 99, 97, 108, 108, 115]⟩, .bool a1] w fun e w' => e = .returned (.bool true) ∧ w' = w := by
  cases a1
  all_goals
    go_enter Try.func6, Try.ntmps6
    go_wp2
    go_ret
    exact ⟨rfl, rfl⟩

set_option maxHeartbeats 400000 in
theorem wire_function_call (a1 : Bool) (w : World) :
    Calls Try.prog 6 #[.string ⟨#[102, 117, 110, 99, 116, 105, 111, 110, 95, 99, 97, 108, 108]⟩, .bool a1] w fun e w' => e = .returned (.bool true) ∧ w' = w := by
  cases a1
  all_goals
    go_enter Try.func6, Try.ntmps6
    go_wp2
    go_ret
    exact ⟨rfl, rfl⟩

set_option maxHeartbeats 400000 in
theorem wire_content_filter (a1 : Bool) (w : World) :
    Calls Try.prog 6 #[.string ⟨#[99, 111, 110, 116, 101, 110, 116, 95, 102, 105, 108, 116, 101, 114]⟩, .bool a1] w fun e w' => e = .returned (.bool true) ∧ w' = w := by
  cases a1
  all_goals
    go_enter Try.func6, Try.ntmps6
    go_wp2
    go_ret
    exact ⟨rfl, rfl⟩

theorem wire_any (a0 : ByteArray) (a1 : Bool) (w : World) (w0 : a0.size ≤ maxLen) :
    Calls Try.prog 6 #[.string a0, .bool a1] w fun e w' => e = .returned (.bool true) ∧ w' = w := by
  rcases Nat.lt_or_ge 1048576 a0.size with hb | hb
  · exact wire_long a0 a1 w w0 hb
  rcases text_or a0 [108, 101, 110, 103, 116, 104] with rfl | h1
  · exact wire_length a1 w
  rcases text_or a0 [116, 111, 111, 108, 95, 99, 97, 108, 108, 115] with rfl | h2
  · exact wire_tool_calls a1 w
  rcases text_or a0 [102, 117, 110, 99, 116, 105, 111, 110, 95, 99, 97, 108, 108] with rfl | h3
  · exact wire_function_call a1 w
  rcases text_or a0 [99, 111, 110, 116, 101, 110, 116, 95, 102, 105, 108, 116, 101, 114] with rfl | h4
  · exact wire_content_filter a1 w
  exact wire_other a0 a1 w w0 hb h1 h2 h3 h4

set_option maxHeartbeats 400000 in
theorem inv_long (a0 : ByteArray) (w : World) (w0 : a0.size ≤ maxLen) (hb : 1048576 < a0.size) :
    Calls Try.prog 5 #[.string a0] w fun e w' => e = .returned (.bool true) ∧ w' = w := by
  unfold maxLen at w0
  go_enter Try.func5, Try.ntmps5
  go_wp2
  go_ret
  exact ⟨rfl, rfl⟩

set_option maxHeartbeats 400000 in
theorem inv_other (a0 : ByteArray) (w : World) (w0 : a0.size ≤ maxLen) (hb : a0.size ≤ 1048576)
    (h1 : (a0.toList == [101, 110, 100, 95, 116, 117, 114, 110]) = false)
    (h2 : (a0.toList == [109, 97, 120, 95, 116, 111, 107, 101, 110, 115]) = false)
    (h3 : (a0.toList == [116, 111, 111, 108, 95, 117, 115, 101]) = false)
    (h4 : (a0.toList == [114, 101, 102, 117, 115, 97, 108]) = false) :
    Calls Try.prog 5 #[.string a0] w fun e w' => e = .returned (.bool true) ∧ w' = w := by
  unfold maxLen at w0
  go_enter Try.func5, Try.ntmps5
  go_wp2
  go_ret
  exact ⟨rfl, rfl⟩

set_option maxHeartbeats 400000 in
theorem inv_end_turn (w : World) :
    Calls Try.prog 5 #[.string ⟨#[101, 110, 100, 95, 116, 117, 114, 110]⟩] w fun e w' => e = .returned (.bool true) ∧ w' = w := by
  go_enter Try.func5, Try.ntmps5
  go_wp2
  go_ret
  exact ⟨rfl, rfl⟩

set_option maxHeartbeats 400000 in
theorem inv_max_tokens (w : World) :
    Calls Try.prog 5 #[.string ⟨#[109, 97, 120, 95, 116, 111, 107, 101, 110, 115]⟩] w fun e w' => e = .returned (.bool true) ∧ w' = w := by
  go_enter Try.func5, Try.ntmps5
  go_wp2
  go_ret
  exact ⟨rfl, rfl⟩

set_option maxHeartbeats 400000 in
theorem inv_tool_use (w : World) :
    Calls Try.prog 5 #[.string ⟨#[116, 111, 111, 108, 95, 117, 115, 101]⟩] w fun e w' => e = .returned (.bool true) ∧ w' = w := by
  go_enter Try.func5, Try.ntmps5
  go_wp2
  go_ret
  exact ⟨rfl, rfl⟩

set_option maxHeartbeats 400000 in
theorem inv_refusal (w : World) :
    Calls Try.prog 5 #[.string ⟨#[114, 101, 102, 117, 115, 97, 108]⟩] w fun e w' => e = .returned (.bool true) ∧ w' = w := by
  go_enter Try.func5, Try.ntmps5
  go_wp2
  go_ret
  exact ⟨rfl, rfl⟩

theorem inv_any (a0 : ByteArray) (w : World) (w0 : a0.size ≤ maxLen) :
    Calls Try.prog 5 #[.string a0] w fun e w' => e = .returned (.bool true) ∧ w' = w := by
  rcases Nat.lt_or_ge 1048576 a0.size with hb | hb
  · exact inv_long a0 w w0 hb
  rcases text_or a0 [101, 110, 100, 95, 116, 117, 114, 110] with rfl | h1
  · exact inv_end_turn w
  rcases text_or a0 [109, 97, 120, 95, 116, 111, 107, 101, 110, 115] with rfl | h2
  · exact inv_max_tokens w
  rcases text_or a0 [116, 111, 111, 108, 95, 117, 115, 101] with rfl | h3
  · exact inv_tool_use w
  rcases text_or a0 [114, 101, 102, 117, 115, 97, 108] with rfl | h4
  · exact inv_refusal w
  exact inv_other a0 w w0 hb h1 h2 h3 h4

end Go.Proofs.Qxb6601840a
