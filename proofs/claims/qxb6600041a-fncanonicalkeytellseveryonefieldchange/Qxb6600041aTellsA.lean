/-
  THE WALK of FnCanonicalKeyTellsEveryOneFieldChange.
-/
import Derived.Test.Qxb6600041aKeyLaw
import Derived.Deep.CutBlock
import Derived.Deep.RegionWith
namespace Go.Proofs.Qxb6600041a.Key
open Go.ChangeShapes Go.WideShapes Go.ChangeAt Go.RowKit

set_option maxRecDepth 100000 in
set_option maxHeartbeats 4000000 in
theorem bytes17 (a0 : Int) (a1 a2 a3 a4 a5 a6 a7 a8 a9 a10 a11 : ByteArray) (w : World) (h1 : a1.size ≤ maxLen) (h2 : a2.size ≤ maxLen) (h3 : a3.size ≤ maxLen) (h4 : a4.size ≤ maxLen) (h5 : a5.size ≤ maxLen) (h6 : a6.size ≤ maxLen) (h7 : a7.size ≤ maxLen) (h8 : a8.size ≤ maxLen) (h9 : a9.size ≤ maxLen) (h10 : a10.size ≤ maxLen) (h11 : a11.size ≤ maxLen) :
    Calls Try.prog 17 #[.int .u8 a0, .string a1, .string a2, .string a3, .string a4, .string a5, .string a6, .string a7, .string a8, .string a9, .string a10, .string a11] w fun e w' => ∃ v : Bool, e = .returned (.bool v) ∧ w' = w := by
  unfold maxLen at *
  go_enter Try.func17, Try.ntmps17
  go_wp2
  all_goals (go_ret; exact ⟨_, rfl, rfl⟩)

set_option maxRecDepth 100000 in
set_option maxHeartbeats 4000000 in
theorem tells_long (a0 : Int) (a1 a2 a3 a4 a5 a6 a7 a8 a9 a10 a11 : ByteArray) (w : World) (h1 : a1.size ≤ maxLen) (h2 : a2.size ≤ maxLen) (h3 : a3.size ≤ maxLen) (h4 : a4.size ≤ maxLen) (h5 : a5.size ≤ maxLen) (h6 : a6.size ≤ maxLen) (h7 : a7.size ≤ maxLen) (h8 : a8.size ≤ maxLen) (h9 : a9.size ≤ maxLen) (h10 : a10.size ≤ maxLen) (h11 : a11.size ≤ maxLen) (hlong : ¬ (a1.size ≤ 65536 ∧ a2.size ≤ 65536 ∧ a3.size ≤ 65536 ∧ a4.size ≤ 65536 ∧ a5.size ≤ 65536 ∧ a6.size ≤ 65536 ∧ a7.size ≤ 65536 ∧ a8.size ≤ 65536 ∧ a9.size ≤ 65536 ∧ a10.size ≤ 65536 ∧ a11.size ≤ 65536)) :
    Calls Try.prog 7 #[.int .u8 a0, .string a1, .string a2, .string a3, .string a4, .string a5, .string a6, .string a7, .string a8, .string a9, .string a10, .string a11] w fun e w' => e = .returned (.bool true) ∧ w' = w := by
  have HZ : Hid _ := fun w => bytes17 a0 a1 a2 a3 a4 a5 a6 a7 a8 a9 a10 a11 w h1 h2 h3 h4 h5 h6 h7 h8 h9 h10 h11
  have HL : Hid _ := hlong
  clear hlong
  unfold maxLen at h1 h2 h3 h4 h5 h6 h7 h8 h9 h10 h11
  go_enter Try.func7, Try.ntmps7
  go_upto_region 9 with (go_at_call 17; refine (HZ.out _).mono ?_; rintro e w' ⟨v, rfl, rfl⟩; clear HZ; cases v)
  all_goals first | (go_ret; exact ⟨rfl, rfl⟩) | (exfalso; apply HL.out; clear HL; omega)

end Go.Proofs.Qxb6600041a.Key
