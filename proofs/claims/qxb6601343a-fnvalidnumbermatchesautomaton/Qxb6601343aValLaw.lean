/-
  FnValidNumberMatchesAutomaton: the law's walk.
-/
import Derived.Test.Qxb6601343aVal
namespace Go.Proofs.Qxb6601343a.Num
open Go.ChangeShapes Go.WideShapes Go.ChangeAt Go.RowKit

set_option maxHeartbeats 400000 in
theorem bytes8_yes (s : ByteArray) (w : World) (hs : s.size ≤ 1048576) :
    Calls Try.prog 8 #[.string s] w fun e w' => e = .returned (.bool true) ∧ w' = w := by
  go_enter Try.func8, Try.ntmps8
  go_wp2
  go_ret
  exact ⟨rfl, rfl⟩
set_option maxHeartbeats 400000 in
theorem bytes8_no (s : ByteArray) (w : World) (hm : s.size ≤ maxLen) (hs : 1048576 < s.size) :
    Calls Try.prog 8 #[.string s] w fun e w' => e = .returned (.bool false) ∧ w' = w := by
  unfold maxLen at hm
  go_enter Try.func8, Try.ntmps8
  go_wp2
  go_ret
  exact ⟨rfl, rfl⟩
set_option maxHeartbeats 400000 in
theorem zz_val (s : ByteArray) (w : World) (hs : s.size ≤ 1048576) :
    Calls Try.prog 9 #[.string s] w fun e w' => e = .returned (.bool (val (bs s))) ∧ Grown w w' := by
  go_enter Try.func9, Try.ntmps9
  go_wp2_with fail
  refine (val_any s _ hs).mono ?_
  rintro e w' ⟨rfl, hg⟩
  have HG : Hid _ := fun _ : True => hg
  clear hg
  go_wp2
  go_ret
  exact ⟨rfl, HG.out trivial⟩
theorem same_law (s : ByteArray) : (val (bs s) == A (bs s) 0 0) = true := by rw [A_val]; simp
set_option maxRecDepth 100000 in
set_option maxHeartbeats 1000000 in
/-- THE LAW's WALK. -/
theorem val_law (a0 : ByteArray) (w : World) (w0 : a0.size ≤ maxLen) :
    Calls Try.prog 3 #[.string a0] w fun e w' => e = .returned (.bool true) ∧ Grown w w' := by
  have m0 := w0
  unfold maxLen at w0
  by_cases hbig : 1048576 < a0.size
  · go_enter Try.func3, Try.ntmps3
    go_wp2_with (go_at_call 8; refine (bytes8_no _ _ m0 hbig).mono ?_; rintro e w' ⟨rfl, rfl⟩)
    go_ret
    exact ⟨rfl, Grown.refl _⟩
  · have hs : a0.size ≤ 1048576 := by omega
    have hl := same_law a0
    go_enter Try.func3, Try.ntmps3
    go_wp2_with (go_at_call 8; refine (bytes8_yes _ _ hs).mono ?_; rintro e w' ⟨rfl, rfl⟩)
    refine (zz_val a0 _ hs).mono ?_
    rintro e w2 ⟨rfl, hg⟩
    have HG : Hid _ := fun _ : True => hg
    clear hg
    go_wp2_with fail
    refine (accepts_any a0 _ hs).mono ?_
    rintro e w3 ⟨rfl, rfl⟩
    go_wp2
    go_ret
    exact ⟨rfl, HG.out trivial⟩
end Go.Proofs.Qxb6601343a.Num
