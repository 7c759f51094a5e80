/-
  PLAIN: how a quoted text is read back. THE WALKS: zqb1HexValue, zqb1UnescapeShort (where they answer).
-/
import Derived.Test.Qxb6601343aConcat
namespace Go.Proofs.Qxb6601343a.App
open Go.ChangeShapes Go.WideShapes Go.ChangeAt Go.RowKit

set_option maxHeartbeats 400000 in
theorem hex_digit (d : Int) (w : World) (h0 : 0 ≤ d) (h1 : d < 10) :
    Calls Try.prog 23 #[.int .u8 (48 + d)] w fun e w' => e = .returned (.int .i64 d) ∧ w' = w := by
  have a1 : 48 ≤ 48 + d := by omega
  have a2 : 48 + d ≤ 57 := by omega
  go_enter Try.func23, Try.ntmps23
  go_wp2
  go_ret
  exact ⟨by congr 2; simp; omega, rfl⟩
set_option maxHeartbeats 400000 in
theorem hex_letter (d : Int) (w : World) (h0 : 10 ≤ d) (h1 : d < 16) :
    Calls Try.prog 23 #[.int .u8 (87 + d)] w fun e w' => e = .returned (.int .i64 d) ∧ w' = w := by
  have a1 : 97 ≤ 87 + d := by omega
  have a2 : 87 + d ≤ 102 := by omega
  have a3 : decide (87 + d ≤ 57) = false := decide_eq_false (by omega)
  go_enter Try.func23, Try.ntmps23
  go_wp2
  go_ret
  exact ⟨by congr 2; simp; omega, rfl⟩
theorem hex_any (c d : Int) (w : World) (hc : c = hexd d) (h0 : 0 ≤ d) (h1 : d < 16) :
    Calls Try.prog 23 #[.int .u8 c] w fun e w' => e = .returned (.int .i64 d) ∧ w' = w := by
  subst hc
  unfold hexd
  split
  · exact hex_digit d w h0 (by omega)
  · exact hex_letter d w (by omega) h1

/-- The escapes of one letter. -/
def short (e d : Int) : Prop := (e = 34 ∧ d = 34) ∨ (e = 92 ∧ d = 92) ∨ (e = 98 ∧ d = 8) ∨ (e = 102 ∧ d = 12) ∨ (e = 110 ∧ d = 10) ∨ (e = 114 ∧ d = 13) ∨ (e = 116 ∧ d = 9)
set_option maxHeartbeats 1000000 in
theorem unescape_any (e d : Int) (w : World) (h : short e d) :
    Calls Try.prog 24 #[.int .u8 e] w fun x w' => x = .returned (.int .i64 d) ∧ w' = w := by
  unfold short at h
  rcases h with ⟨rfl, rfl⟩ | ⟨rfl, rfl⟩ | ⟨rfl, rfl⟩ | ⟨rfl, rfl⟩ | ⟨rfl, rfl⟩ | ⟨rfl, rfl⟩ | ⟨rfl, rfl⟩
  all_goals
    go_enter Try.func24, Try.ntmps24
    go_wp2
    go_ret
    exact ⟨rfl, rfl⟩

/-! ### Where the bytes of a quoted text lie -/
theorem quote_split (l : List UInt8) (k : Nat) (h : k < l.length) : quote l = ([34] ++ body (l.take k)) ++ (esc ((l[k]'h).toNat) ++ (body (l.drop (k + 1)) ++ [34])) := by
  unfold quote
  have e : l = l.take k ++ ([l[k]] ++ l.drop (k + 1)) := by
    rw [← List.append_assoc, ← List.take_succ_eq_append_getElem h, List.take_append_drop]
  conv => lhs; rw [e]
  rw [body_append, body_append]
  simp [body]
theorem quote_at (l : List UInt8) (k j : Nat) (h : k < l.length) (hj : j < (esc ((l[k]'h).toNat)).length) : (quote l).getD (1 + (body (l.take k)).length + j) 0 = (esc ((l[k]'h).toNat)).getD j 0 := by
  rw [quote_split l k h]
  simp only [List.getD_eq_getElem?_getD]
  rw [List.getElem?_append_right (by simp; omega), List.getElem?_append_left (by simp; omega)]
  congr 2
  simp
  omega
theorem quote_room (l : List UInt8) (k : Nat) (h : k < l.length) : 1 + (body (l.take k)).length + (esc ((l[k]'h).toNat)).length < (quote l).length := by
  rw [quote_split l k h]
  simp only [List.length_append, List.length_cons, List.length_nil]
  omega
theorem quote_last (l : List UInt8) : (quote l).getD (1 + (body l).length) 0 = 34 ∧ 1 + (body l).length + 1 = (quote l).length := by
  unfold quote
  constructor
  · simp only [List.getD_eq_getElem?_getD]
    rw [List.getElem?_append_right (by simp; omega)]
    simp [show 1 + (body l).length - ((body l).length + 1) = 0 by omega]
  · simp; omega
theorem body_take_succ (l : List UInt8) (k : Nat) (h : k < l.length) : (body (l.take (k + 1))).length = (body (l.take k)).length + (esc ((l[k]'h).toNat)).length := by
  rw [List.take_succ_eq_append_getElem h, body_snoc, List.length_append]
/-- The bytes of a text as numbers. -/
def nums (l : List UInt8) : List Int := l.map fun c => (c.toNat : Int)
theorem nums_succ (l : List UInt8) (k : Nat) (h : k < l.length) : nums (l.take (k + 1)) = nums (l.take k) ++ [((l[k]'h).toNat : Int)] := by
  unfold nums
  rw [List.take_succ_eq_append_getElem h, List.map_append]
  rfl
end Go.Proofs.Qxb6601343a.App
