/-
  THE WALK of FnCanonicalKeyReadsBack: the ways that answer true at once.
-/
import Derived.Test.Qxb6600041aBack
import Derived.Deep.CutBlock
namespace Go.Proofs.Qxb6600041a.Read
open Go.ChangeShapes Go.WideShapes Go.ChangeAt Go.RowKit Go.Proofs.Qxb6600041a.Key

theorem nt {b : Bool} (h : ¬ b = true) : b = false := by cases b <;> simp_all

set_option maxRecDepth 100000 in
set_option maxHeartbeats 4000000 in
theorem bytes18 (a0 a1 a2 a3 a4 a5 a6 a7 a8 a9 a10 : ByteArray) (w : World) (h0 : a0.size ≤ maxLen) (h1 : a1.size ≤ maxLen) (h2 : a2.size ≤ maxLen) (h3 : a3.size ≤ maxLen) (h4 : a4.size ≤ maxLen) (h5 : a5.size ≤ maxLen) (h6 : a6.size ≤ maxLen) (h7 : a7.size ≤ maxLen) (h8 : a8.size ≤ maxLen) (h9 : a9.size ≤ maxLen) (h10 : a10.size ≤ maxLen) :
    Calls Try.prog 18 #[.string a0, .string a1, .string a2, .string a3, .string a4, .string a5, .string a6, .string a7, .string a8, .string a9, .string a10] w fun e w' => ∃ v : Bool, e = .returned (.bool v) ∧ w' = w := by
  unfold maxLen at *
  go_enter Try.func18, Try.ntmps18
  go_wp2
  all_goals (go_ret; exact ⟨_, rfl, rfl⟩)

set_option maxRecDepth 100000 in
set_option maxHeartbeats 4000000 in
theorem back_long (a0 a1 a2 a3 a4 a5 a6 a7 a8 a9 a10 : ByteArray) (w : World) (h0 : a0.size ≤ maxLen) (h1 : a1.size ≤ maxLen) (h2 : a2.size ≤ maxLen) (h3 : a3.size ≤ maxLen) (h4 : a4.size ≤ maxLen) (h5 : a5.size ≤ maxLen) (h6 : a6.size ≤ maxLen) (h7 : a7.size ≤ maxLen) (h8 : a8.size ≤ maxLen) (h9 : a9.size ≤ maxLen) (h10 : a10.size ≤ maxLen) (hlong : ¬ (a0.size ≤ 65536 ∧ a1.size ≤ 65536 ∧ a2.size ≤ 65536 ∧ a3.size ≤ 65536 ∧ a4.size ≤ 65536 ∧ a5.size ≤ 65536 ∧ a6.size ≤ 65536 ∧ a7.size ≤ 65536 ∧ a8.size ≤ 65536 ∧ a9.size ≤ 65536 ∧ a10.size ≤ 65536)) :
    Calls Try.prog 8 #[.string a0, .string a1, .string a2, .string a3, .string a4, .string a5, .string a6, .string a7, .string a8, .string a9, .string a10] w fun e w' => e = .returned (.bool true) ∧ w' = w := by
  have HZ : Hid _ := fun w => bytes18 a0 a1 a2 a3 a4 a5 a6 a7 a8 a9 a10 w h0 h1 h2 h3 h4 h5 h6 h7 h8 h9 h10
  have HL : Hid _ := hlong
  clear hlong
  unfold maxLen at h0 h1 h2 h3 h4 h5 h6 h7 h8 h9 h10
  go_enter Try.func8, Try.ntmps8
  go_upto_region 9 with (go_at_call 18; refine (HZ.out _).mono ?_; rintro e w' ⟨v, rfl, rfl⟩; clear HZ; cases v)
  all_goals first | (go_ret; exact ⟨rfl, rfl⟩) | (exfalso; apply HL.out; clear HL; omega)

/-- No field that enters the key holds its separators. -/
def Good (a0 a1 a2 a3 a4 a5 _a6 a7 a8 a9 _a10 : ByteArray) : Prop :=
  hasB a1 124 = false ∧ hasB a3 124 = false ∧ hasB a4 124 = false ∧ hasB a5 124 = false ∧ hasB a7 124 = false ∧ hasB a8 124 = false ∧ hasB a9 124 = false ∧ ((a0.toList == [101, 120, 112, 108, 105, 99, 105, 116]) = true → hasB a2 124 = false) ∧ hasB a3 47 = false ∧ hasB a8 47 = false

set_option maxRecDepth 100000 in
set_option maxHeartbeats 4000000 in
theorem back_bad (a0 a1 a2 a3 a4 a5 a6 a7 a8 a9 a10 : ByteArray) (w : World) (h0 : a0.size ≤ 65536) (h1 : a1.size ≤ 65536) (h2 : a2.size ≤ 65536) (h3 : a3.size ≤ 65536) (h4 : a4.size ≤ 65536) (h5 : a5.size ≤ 65536) (h6 : a6.size ≤ 65536) (h7 : a7.size ≤ 65536) (h8 : a8.size ≤ 65536) (h9 : a9.size ≤ 65536) (h10 : a10.size ≤ 65536) (hbad : ¬ Good a0 a1 a2 a3 a4 a5 a6 a7 a8 a9 a10) :
    Calls Try.prog 8 #[.string a0, .string a1, .string a2, .string a3, .string a4, .string a5, .string a6, .string a7, .string a8, .string a9, .string a10] w fun e w' => e = .returned (.bool true) ∧ w' = w := by
  have HZ : Hid _ := fun w => bytes18 a0 a1 a2 a3 a4 a5 a6 a7 a8 a9 a10 w (by unfold maxLen; omega) (by unfold maxLen; omega) (by unfold maxLen; omega) (by unfold maxLen; omega) (by unfold maxLen; omega) (by unfold maxLen; omega) (by unfold maxLen; omega) (by unfold maxLen; omega) (by unfold maxLen; omega) (by unfold maxLen; omega) (by unfold maxLen; omega)
  have HL : Hid _ := hbad
  clear hbad
  go_enter Try.func8, Try.ntmps8
  go_upto_region 18 with (first | (go_at_call 18; refine (HZ.out _).mono ?_; rintro e w' ⟨v, rfl, rfl⟩; clear HZ; cases v) | (go_at_call 19; refine (has_any _ _ _ (by assumption)).mono ?_; rintro e w1 ⟨rfl, rfl⟩))
  all_goals first | (go_ret; exact ⟨rfl, rfl⟩) | skip
  · exact absurd ⟨nt (by assumption), nt (by assumption), nt (by assumption), by assumption, nt (by assumption), nt (by assumption), by assumption, fun _ => by assumption, nt (by assumption), by assumption⟩ HL.out
  · exact absurd ⟨nt (by assumption), nt (by assumption), nt (by assumption), by assumption, nt (by assumption), nt (by assumption), by assumption, fun e => absurd (beq_iff_eq.1 e) (by assumption), nt (by assumption), by assumption⟩ HL.out
end Go.Proofs.Qxb6600041a.Read
