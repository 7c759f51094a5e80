/-
  FnAppendStringConcat: the law's walk, whole.
-/
import Derived.Test.Qxb6601343aConcat
namespace Go.Proofs.Qxb6601343a.App
open Go.ChangeShapes Go.WideShapes Go.ChangeAt Go.RowKit

set_option maxHeartbeats 400000 in
theorem bytes19_yes (s t : ByteArray) (w : World) (hs : s.size ≤ 524288) (ht : t.size ≤ 524288) :
    Calls Try.prog 19 #[.string s, .string t] w fun e w' => e = .returned (.bool true) ∧ w' = w := by
  go_enter Try.func19, Try.ntmps19
  go_wp2
  go_ret
  exact ⟨rfl, rfl⟩
set_option maxHeartbeats 400000 in
theorem bytes19_any (s t : ByteArray) (w : World) (hs : s.size ≤ maxLen) (ht : t.size ≤ maxLen) :
    Calls Try.prog 19 #[.string s, .string t] w fun e w' => ∃ v : Bool, e = .returned (.bool v) ∧ w' = w := by
  unfold maxLen at hs ht
  go_enter Try.func19, Try.ntmps19
  go_wp2
  all_goals (go_ret; exact ⟨_, rfl, rfl⟩)
set_option maxHeartbeats 1000000 in
theorem concat_long (s t : ByteArray) (w : World) (hs : s.size ≤ maxLen) (ht : t.size ≤ maxLen) (h : ¬ (s.size ≤ 524288 ∧ t.size ≤ 524288)) :
    Calls Try.prog 7 #[.string s, .string t] w fun e w' => e = .returned (.bool true) ∧ w' = w := by
  have HZ : Hid _ := fun w => bytes19_any s t w hs ht
  unfold maxLen at hs ht
  by_cases h1 : s.size ≤ 524288
  · have h2 : 524288 < t.size := by omega
    clear h
    go_enter Try.func7, Try.ntmps7
    go_wp2_with (go_at_call 19; refine (HZ.out _).mono ?_; rintro e w' ⟨v, rfl, rfl⟩; clear HZ; cases v)
    all_goals (go_ret; exact ⟨rfl, rfl⟩)
  · have h2 : 524288 < s.size := by omega
    clear h h1
    go_enter Try.func7, Try.ntmps7
    go_wp2_with (go_at_call 19; refine (HZ.out _).mono ?_; rintro e w' ⟨v, rfl, rfl⟩; clear HZ; cases v)
    all_goals (go_ret; exact ⟨rfl, rfl⟩)
/-- THE LAW's WALK. -/
theorem concat_law (s t : ByteArray) (w : World) (hs : s.size ≤ maxLen) (ht : t.size ≤ maxLen) :
    Calls Try.prog 7 #[.string s, .string t] w fun e w' => e = .returned (.bool true) ∧ Below w.heap.size w w' := by
  by_cases h : s.size ≤ 524288 ∧ t.size ≤ 524288
  · exact concat_short s t w h.1 h.2 (fun w => bytes19_yes s t w h.1 h.2)
  · refine (concat_long s t w hs ht h).mono ?_
    rintro e w' ⟨rfl, rfl⟩
    exact ⟨rfl, Below.refl _ _⟩
end Go.Proofs.Qxb6601343a.App
